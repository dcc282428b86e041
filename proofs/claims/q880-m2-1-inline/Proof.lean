import JvmDerived
import JvmDerived.Pilot.@@N@@Statement
import JvmDerived.Pilot.@@N@@Code
set_option linter.unusedVariables false
set_option linter.unusedSimpArgs false
namespace Jvm.OwnKit
open Sem ClassFile Op Lib Jvm.Stand Jvm.Free Jvm.LawKit Jvm.RoadKit
abbrev Kx := (List Loc → Prop) × (Outcome → State → List Loc → Prop) × Program × Env × State × MethodId × Array Value × List Frame × Method × Code
def KS (K : Kx) : State := K.2.2.2.2.1
/-- what is fixed while one body is walked; fl: places may be written; kz: what the heap's length must reach at the end -/
def Ctx (l : Launch) (R : Room) (Z : State) (own nm : String) (code : ByteArray) (maxL : Nat) (ret : Option FieldType) (fl : Bool) (n0 kz : Nat) : Kx → Prop
  | (Pl, En, p, e, s, m, args, below, meth, c) => p.tables.exec = Jvm.exec ∧ Z.Warmed39 s.vm ∧ s.vm.findClass own = some m.cls ∧ c.code = code ∧ c.maxLocals = maxL ∧ meth.sig.returnType = ret ∧ meth.name = nm ∧ meth.locks = false ∧ (fl = true → ∀ A, Fr n0 A → Pl A) ∧ (∀ A, Pl A → Fr n0 A) ∧
    ∀ v (t : State) A, kz ≤ t.heap.size → s.WarmedH t.vm → s.sameButNew ({ t with vm := s.vm } : State) A R.cells R.slots → En (.returned v) t A
/-- from every stand with the heap h at this frame the body ends as Q says, all that it wrote lying at n0 or above -/
def Run (l : Launch) (R : Room) (n0 : Nat) (Q : Option Value → Heap → Vm → Prop) : Kx → Heap → Nat → Nat → Nat → Array Slot → List Value → Prop
  | (Pl, En, p, e, s, m, args, below, meth, c), h, cells, slots, pc, Ls, st => ∀ (T : State) (locs : List Loc), Stand p l e R s m args below meth c T locs cells slots → T.heap = h → Pl locs →
    ∃ s₂ o, Steps p.tables e below (T.setTop (mkF m pc Ls st)) s₂ ∧ s₂.status = .running ∧ Ended s₂ below o ∧ ∃ v L, o = .returned v ∧ (Q v s₂.heap s₂.vm ∧ Fr n0 L) ∧ En o s₂ L
/-- a body's contract: it interns nothing -/
def Con (l : Launch) (ws : List Jvm.Cond) (y : MethodName) (bytes : ByteArray) (maxL : Nat) (ret : Option FieldType) (rm : Room) (Z : State) (as : Array Value) (h0 : Heap) (n0 : Nat) (Q : Option Value → Heap → Prop) : Prop :=
  MetFree l y (head1 (Jvm.Cond.code y bytes maxL ret :: ws) rm) (fun a U => a = as ∧ Z.Warmed39 U.vm ∧ U.heap = h0) (fun _ _ _ _ _ => True) (fun _ U o U' => ∃ v L, o = .returned v ∧ (Q v U'.heap ∧ Fr n0 L) ∧ FrameEnd U o U' L rm.cells rm.slots)
/-- a body's contract: it may intern; V: what its start knows of the tables -/
def ConW (l : Launch) (ws : List Jvm.Cond) (y : MethodName) (bytes : ByteArray) (maxL : Nat) (ret : Option FieldType) (rm : Room) (Z : State) (as : Array Value) (h0 : Heap) (n0 : Nat) (V : Vm → Prop) (Q : Option Value → Heap → Vm → Prop) : Prop :=
  MetFree l y (head1 (Jvm.Cond.code y bytes maxL ret :: ws) rm) (fun a U => a = as ∧ Z.Warmed39 U.vm ∧ U.heap = h0 ∧ V U.vm) (fun _ _ _ _ _ => True) (fun _ U o U' => ∃ v L, o = .returned v ∧ (Q v U'.heap U'.vm ∧ Fr n0 L) ∧ ReturnedEndW U o U' L rm.cells rm.slots)
section
variable {l : Launch} {R : Room} {Z : State} {own nm : String} {code : ByteArray} {maxL : Nat} {ret : Option FieldType} {K : Kx} {fl : Bool} {n0 kz : Nat} {Q : Option Value → Heap → Vm → Prop} {h : Heap} {cells slots pc pc' : Nat} {Ls Ls' : Array Slot} {st rest : List Value} {a0 : Array Value}
theorem enter {ws : List Jvm.Cond} {y : MethodName} {as : Array Value} {h0 : Heap} {Q : Option Value → Heap → Prop} (pn : plainFor y = true) (ef : ∀ m, entryFrame m as maxL = mkF m 0 Ls []) (H : ∀ K, Ctx l R Z y.cls y.name code maxL ret true n0 0 K → Run l R n0 (fun v h _ => Q v h) K h0 0 0 0 Ls []) : Con l ws y code maxL ret R Z as h0 n0 Q := by
  refine MetFree.of_bodySF pn hisR ?_
  intro p e s m args below meth c s₁ Bd hml0 hP hK
  obtain ⟨rfl, hZ, hh⟩ := hP
  have X0 : Stand p l e R s m args below meth c s₁ [] 0 0 := Stand.of_body Bd
  obtain ⟨s2, o, k1, k2, k3, k4⟩ := H (Fr n0, fun o t L => FrameEnd s o t L R.cells R.slots, p, e, s, m, args, below, meth, c) ⟨Bd.exec, hZ, findClass_of_methodNamed Bd.named, Bd.bytes, hml0, Bd.returns, (name_of_methodNamed Bd.named Bd.method).1, Bd.notSynchronized, fun _ A a => a, fun A a => a, fun v t A _ h1 h2 => ⟨⟨v, rfl⟩, h1, h2⟩⟩ s₁ [] X0 (by rw [← hh, Bd.state]; rfl) (Fr.nil n0)
  exact ⟨s2, o, castTop (ef m) k1, k2, k3, k4⟩
/-- the base of a wide walk: whatever the tables have gained since the body's start, it ends well -/
def Wb (l : Launch) (R : Room) (Z : State) (own nm : String) (code : ByteArray) (maxL : Nat) (ret : Option FieldType) (n0 : Nat) (h0 : Heap) : Kx → Prop
  | (Pl, En, p, e, s, m, args, below, meth, c) => p.tables.exec = Jvm.exec ∧ Z.Warmed39 s.vm ∧ s.vm.findClass own = some m.cls ∧ c.code = code ∧ c.maxLocals = maxL ∧ meth.sig.returnType = ret ∧ meth.name = nm ∧ meth.locks = false ∧ s.heap = h0 ∧
    ∀ vm k v (t : State) A, s.Since vm k → k ≤ t.heap.size → (s.setVm vm).WarmedH t.vm → (s.setVm vm).sameButNew ({ t with vm := vm } : State) A R.cells R.slots → En (.returned v) t A
def Kw : Kx → (List Loc → Prop) → Vm → Kx
  | (_, En, p, e, s, m, args, below, meth, c), Pl, w => (Pl, En, p, e, s.setVm w, m, args, below, meth, c)
/-- the tables have become vm since the start -/
def Sn (K : Kx) (vm : Vm) (k : Nat) : Prop := (KS K).Since vm k
theorem Wb.ctx {h0 : Heap} {vm : Vm} {k : Nat} (W : Wb l R Z own nm code maxL ret n0 h0 K) (D : Sn K vm k) : Ctx l R Z own nm code maxL ret true n0 k (Kw K (Fr n0) vm) := by
  obtain ⟨Pl, En, p, e, s, m, args, below, meth, c⟩ := K
  obtain ⟨w1, w2, w3, w4, w5, w6, w7, w8, w9, w10⟩ := W
  have D' : s.Since vm k := D
  exact ⟨w1, State.Warmed39.trans w2 D'.1, by rw [show (s.setVm vm).vm = vm from rfl, D'.1.alike.findClass]; exact w3, w4, w5, w6, w7, w8, fun _ A a => a, fun A a => a, fun v t A h1 h2 h3 => w10 vm k v t A D' h1 h2 h3⟩
theorem Wb.ctx0 {h0 : Heap} {vm : Vm} {k : Nat} (W : Wb l R Z own nm code maxL ret n0 h0 K) (D : Sn K vm k) : Ctx l R Z own nm code maxL ret false n0 k (Kw K (· = []) vm) := by
  obtain ⟨Pl, En, p, e, s, m, args, below, meth, c⟩ := K
  obtain ⟨w1, w2, w3, w4, w5, w6, w7, w8, w9, w10⟩ := W
  have D' : s.Since vm k := D
  exact ⟨w1, State.Warmed39.trans w2 D'.1, by rw [show (s.setVm vm).vm = vm from rfl, D'.1.alike.findClass]; exact w3, w4, w5, w6, w7, w8, (fun q => Bool.noConfusion q), (fun A (a : A = []) => a ▸ Fr.nil n0), fun v t A h1 h2 h3 => w10 vm k v t A D' h1 h2 h3⟩
/-- nothing written so far: from now on anything may be -/
theorem Run.touch {vm : Vm} (r : Run l R n0 Q (Kw K (Fr n0) vm) h cells slots pc Ls st) : Run l R n0 Q (Kw K (· = []) vm) h cells slots pc Ls st := by
  obtain ⟨Pl, En, p, e, s, m, args, below, meth, c⟩ := K
  intro T locs X eT N
  exact r T locs X eT (by rw [N]; exact Fr.nil n0)
theorem since_refl (s : State) : s.Since s.vm s.heap.size := ⟨State.Warmed39.refl s, fun j p h1 h2 => absurd (Array.getElem?_eq_some_iff.mp h2).1 (Nat.not_lt.mpr h1)⟩
theorem enterW {ws : List Jvm.Cond} {y : MethodName} {as : Array Value} {h0 : Heap} {V : Vm → Prop} (pn : plainFor y = true) (ef : ∀ m, entryFrame m as maxL = mkF m 0 Ls []) (H : ∀ K vm k, Wb l R Z y.cls y.name code maxL ret n0 h0 K → Sn K vm k → k ≤ h0.size → V vm → Run l R n0 Q (Kw K (· = []) vm) h0 0 0 0 Ls []) : ConW l ws y code maxL ret R Z as h0 n0 V Q := by
  refine MetFree.of_bodySF pn hisR ?_
  intro p e s m args below meth c s₁ Bd hml0 hP hK
  obtain ⟨rfl, hZ, hh, hV⟩ := hP
  have X0 : Stand p l e R s m args below meth c s₁ [] 0 0 := Stand.of_body Bd
  obtain ⟨s2, o, k1, k2, k3, k4⟩ := H (Fr n0, fun o t L => ReturnedEndW s o t L R.cells R.slots, p, e, s, m, args, below, meth, c) s.vm s.heap.size ⟨Bd.exec, hZ, findClass_of_methodNamed Bd.named, Bd.bytes, hml0, Bd.returns, (name_of_methodNamed Bd.named Bd.method).1, Bd.notSynchronized, hh, fun vm k v t A hS hk h1 h2 => ⟨⟨v, rfl⟩, hS.ended h1 hk h2⟩⟩ (since_refl s) (by rw [hh]; exact Nat.le_refl _) hV s₁ [] X0 (by rw [← hh, Bd.state]; rfl) rfl
  exact ⟨s2, o, castTop (ef m) k1, k2, k3, k4⟩
theorem Run.le {cells' slots' : Nat} (hc : cells ≤ cells') (hs : slots ≤ slots') (r : Run l R n0 Q K h cells' slots' pc Ls st) : Run l R n0 Q K h cells slots pc Ls st := by
  obtain ⟨Pl, En, p, e, s, m, args, below, meth, c⟩ := K
  intro T locs X eT N
  exact r T locs (X.more hc hs) eT N
theorem Con.weaken {ws : List Jvm.Cond} {y : MethodName} {as : Array Value} {Q Q' : Option Value → Heap → Prop} (r : Con l ws y code maxL ret R Z as h n0 Q') (hq : ∀ v h, Q' v h → Q v h) : Con l ws y code maxL ret R Z as h n0 Q := by
  intro p e a1 a2 a3 s m args below a4 a5 a6 a7
  obtain ⟨s2, o, k1, k2, k3, v, L, k4, ⟨k5, k6⟩, k7⟩ := r p e a1 a2 a3 s m args below a4 a5 a6 a7
  exact ⟨s2, o, k1, k2, k3, v, L, k4, ⟨hq _ _ k5, k6⟩, k7⟩
/-- one step that moves the frame alone -/
theorem Run.pure (C : Ctx l R Z own nm code maxL ret fl n0 kz K) (hp : pc + 0 = pc ∨ True)
    (k : ∀ (p : Program) (e : Env) (s : State) (m : MethodId) (args : Array Value) (below : List Frame) (meth : Method) (c : Code), p.tables.exec = Jvm.exec → c.code = code → s.vm.findClass own = some m.cls → Z.Warmed39 s.vm → ∀ (T : State) (locs : List Loc), Stand p l e R s m args below meth c T locs cells slots → T.heap = h → ∀ target, Steps p.tables e below (T.setTop (mkF m pc' Ls' rest)) target → Steps p.tables e below (T.setTop (mkF m pc Ls st)) target)
    (r : Run l R n0 Q K h cells slots pc' Ls' rest) : Run l R n0 Q K h cells slots pc Ls st := by
  obtain ⟨Pl, En, p, e, s, m, args, below, meth, c⟩ := K
  intro T locs X eT N
  obtain ⟨hx, hZ, hown, hby, -⟩ := C
  obtain ⟨s2, o, k1, k2⟩ := r T locs X eT N
  exact ⟨s2, o, k p e s m args below meth c hx hby hown hZ T locs X eT _ k1, k2⟩

theorem r_aloadN (C : Ctx l R Z own nm code maxL ret fl n0 kz K) {k : Fin 4} {v : Value} (hd : decode code pc = .ok (.aload_n k, 1)) (hp : pc + 1 = pc') (hl : Ls[k.val]? = some (.val v)) (hv : v.isRef = true) (r : Run l R n0 Q K h cells slots pc' Ls (v :: st)) : Run l R n0 Q K h cells slots pc Ls (st) :=
  Run.pure C (Or.inr trivial) (fun p e s m args below meth c hx hby hown hZ T locs X eT target k => by subst hp; exact XS.aloadN X.here hx rfl (hb hby hd) hl hv k) r
theorem r_aload (C : Ctx l R Z own nm code maxL ret fl n0 kz K) {k : Nat} {v : Value} (hd : decode code pc = .ok (.aload k, 2)) (hp : pc + 2 = pc') (hl : Ls[k]? = some (.val v)) (hv : v.isRef = true) (r : Run l R n0 Q K h cells slots pc' Ls (v :: st)) : Run l R n0 Q K h cells slots pc Ls (st) :=
  Run.pure C (Or.inr trivial) (fun p e s m args below meth c hx hby hown hZ T locs X eT target k => by subst hp; exact XS.aload X.here hx rfl (hb hby hd) hl hv k) r
theorem r_iloadN (C : Ctx l R Z own nm code maxL ret fl n0 kz K) {k : Fin 4} {v : Int32} (hd : decode code pc = .ok (.iload_n k, 1)) (hp : pc + 1 = pc') (hl : Ls[k.val]? = some (.val (.int v))) (r : Run l R n0 Q K h cells slots pc' Ls (.int v :: st)) : Run l R n0 Q K h cells slots pc Ls (st) :=
  Run.pure C (Or.inr trivial) (fun p e s m args below meth c hx hby hown hZ T locs X eT target k => by subst hp; exact XS.iloadN X.here hx rfl (hb hby hd) hl k) r
theorem r_iload (C : Ctx l R Z own nm code maxL ret fl n0 kz K) {k : Nat} {v : Int32} (hd : decode code pc = .ok (.iload k, 2)) (hp : pc + 2 = pc') (hl : Ls[k]? = some (.val (.int v))) (r : Run l R n0 Q K h cells slots pc' Ls (.int v :: st)) : Run l R n0 Q K h cells slots pc Ls (st) :=
  Run.pure C (Or.inr trivial) (fun p e s m args below meth c hx hby hown hZ T locs X eT target k => by subst hp; exact XS.iload X.here hx rfl (hb hby hd) hl k) r
theorem r_lloadN (C : Ctx l R Z own nm code maxL ret fl n0 kz K) {k : Fin 4} {v : Int64} (hd : decode code pc = .ok (.lload_n k, 1)) (hp : pc + 1 = pc') (hl : Ls[k.val]? = some (.val (.long v))) (r : Run l R n0 Q K h cells slots pc' Ls (.long v :: st)) : Run l R n0 Q K h cells slots pc Ls (st) :=
  Run.pure C (Or.inr trivial) (fun p e s m args below meth c hx hby hown hZ T locs X eT target k => by subst hp; exact XT.lloadN X.here hx rfl (hb hby hd) hl k) r
theorem r_lload (C : Ctx l R Z own nm code maxL ret fl n0 kz K) {k : Nat} {v : Int64} (hd : decode code pc = .ok (.lload k, 2)) (hp : pc + 2 = pc') (hl : Ls[k]? = some (.val (.long v))) (r : Run l R n0 Q K h cells slots pc' Ls (.long v :: st)) : Run l R n0 Q K h cells slots pc Ls (st) :=
  Run.pure C (Or.inr trivial) (fun p e s m args below meth c hx hby hown hZ T locs X eT target k => by subst hp; exact XT.lload X.here hx rfl (hb hby hd) hl k) r
theorem r_astoreN (C : Ctx l R Z own nm code maxL ret fl n0 kz K) {k : Fin 4} {v : Value} (hd : decode code pc = .ok (.astore_n k, 1)) (hp : pc + 1 = pc') (hl : storeLocals Ls k.val v = some Ls') (hv : v.isRef = true) (r : Run l R n0 Q K h cells slots pc' Ls' (st)) : Run l R n0 Q K h cells slots pc Ls (v :: st) :=
  Run.pure C (Or.inr trivial) (fun p e s m args below meth c hx hby hown hZ T locs X eT target k => by subst hp; exact XS.astoreN X.here hx rfl (hb hby hd) rfl hv hl k) r
theorem r_astore (C : Ctx l R Z own nm code maxL ret fl n0 kz K) {k : Nat} {v : Value} (hd : decode code pc = .ok (.astore k, 2)) (hp : pc + 2 = pc') (hl : storeLocals Ls k v = some Ls') (hv : v.isRef = true) (r : Run l R n0 Q K h cells slots pc' Ls' (st)) : Run l R n0 Q K h cells slots pc Ls (v :: st) :=
  Run.pure C (Or.inr trivial) (fun p e s m args below meth c hx hby hown hZ T locs X eT target k => by subst hp; exact XS.astore X.here hx rfl (hb hby hd) rfl hv hl k) r
theorem r_istoreN (C : Ctx l R Z own nm code maxL ret fl n0 kz K) {k : Fin 4} {v : Int32} (hd : decode code pc = .ok (.istore_n k, 1)) (hp : pc + 1 = pc') (hl : storeLocals Ls k.val (.int v) = some Ls') (r : Run l R n0 Q K h cells slots pc' Ls' (st)) : Run l R n0 Q K h cells slots pc Ls (.int v :: st) :=
  Run.pure C (Or.inr trivial) (fun p e s m args below meth c hx hby hown hZ T locs X eT target k => by subst hp; exact XS.istoreN X.here hx rfl (hb hby hd) rfl hl k) r
theorem r_istore (C : Ctx l R Z own nm code maxL ret fl n0 kz K) {k : Nat} {v : Int32} (hd : decode code pc = .ok (.istore k, 2)) (hp : pc + 2 = pc') (hl : storeLocals Ls k (.int v) = some Ls') (r : Run l R n0 Q K h cells slots pc' Ls' (st)) : Run l R n0 Q K h cells slots pc Ls (.int v :: st) :=
  Run.pure C (Or.inr trivial) (fun p e s m args below meth c hx hby hown hZ T locs X eT target k => by subst hp; exact XS.istore X.here hx rfl (hb hby hd) rfl hl k) r
theorem r_lstoreN (C : Ctx l R Z own nm code maxL ret fl n0 kz K) {k : Fin 4} {v : Int64} (hd : decode code pc = .ok (.lstore_n k, 1)) (hp : pc + 1 = pc') (hl : storeLocals Ls k.val (.long v) = some Ls') (r : Run l R n0 Q K h cells slots pc' Ls' (st)) : Run l R n0 Q K h cells slots pc Ls (.long v :: st) :=
  Run.pure C (Or.inr trivial) (fun p e s m args below meth c hx hby hown hZ T locs X eT target k => by subst hp; exact XT.lstoreN X.here hx rfl (hb hby hd) rfl hl k) r
theorem r_lstore (C : Ctx l R Z own nm code maxL ret fl n0 kz K) {k : Nat} {v : Int64} (hd : decode code pc = .ok (.lstore k, 2)) (hp : pc + 2 = pc') (hl : storeLocals Ls k (.long v) = some Ls') (r : Run l R n0 Q K h cells slots pc' Ls' (st)) : Run l R n0 Q K h cells slots pc Ls (.long v :: st) :=
  Run.pure C (Or.inr trivial) (fun p e s m args below meth c hx hby hown hZ T locs X eT target k => by subst hp; exact XT.lstore X.here hx rfl (hb hby hd) rfl hl k) r
theorem r_iconst (C : Ctx l R Z own nm code maxL ret fl n0 kz K) {i : Int} {v : Int32} (hd : decode code pc = .ok (.iconst i, 1)) (hp : pc + 1 = pc') (hv : Int32.ofInt i = v) (r : Run l R n0 Q K h cells slots pc' Ls (.int v :: st)) : Run l R n0 Q K h cells slots pc Ls (st) :=
  Run.pure C (Or.inr trivial) (fun p e s m args below meth c hx hby hown hZ T locs X eT target k => by subst hp; exact XT.iconstV X.here hx rfl v (hb hby hd) hv k) r
theorem r_bipush (C : Ctx l R Z own nm code maxL ret fl n0 kz K) {i : Int} {v : Int32} (hd : decode code pc = .ok (.bipush i, 2)) (hp : pc + 2 = pc') (hv : (Int8.ofInt i).toInt32 = v) (r : Run l R n0 Q K h cells slots pc' Ls (.int v :: st)) : Run l R n0 Q K h cells slots pc Ls (st) :=
  Run.pure C (Or.inr trivial) (fun p e s m args below meth c hx hby hown hZ T locs X eT target k => by subst hp; exact XT.bipushV X.here hx rfl v (hb hby hd) hv k) r
theorem r_sipush (C : Ctx l R Z own nm code maxL ret fl n0 kz K) {i : Int} {v : Int32} (hd : decode code pc = .ok (.sipush i, 3)) (hp : pc + 3 = pc') (hv : (Int16.ofInt i).toInt32 = v) (r : Run l R n0 Q K h cells slots pc' Ls (.int v :: st)) : Run l R n0 Q K h cells slots pc Ls (st) :=
  Run.pure C (Or.inr trivial) (fun p e s m args below meth c hx hby hown hZ T locs X eT target k => by subst hp; exact XT.sipushV X.here hx rfl v (hb hby hd) hv k) r
theorem r_lconst (C : Ctx l R Z own nm code maxL ret fl n0 kz K) {i : Fin 2} {v : Int64} (hd : decode code pc = .ok (.lconst i, 1)) (hp : pc + 1 = pc') (hv : Int64.ofNat i = v) (r : Run l R n0 Q K h cells slots pc' Ls (.long v :: st)) : Run l R n0 Q K h cells slots pc Ls (st) :=
  Run.pure C (Or.inr trivial) (fun p e s m args below meth c hx hby hown hZ T locs X eT target k => by subst hp; exact XT.lconstV X.here hx rfl v (hb hby hd) hv k) r
theorem r_aconst_null (C : Ctx l R Z own nm code maxL ret fl n0 kz K) (hd : decode code pc = .ok (.aconst_null, 1)) (hp : pc + 1 = pc') (r : Run l R n0 Q K h cells slots pc' Ls (.null :: st)) : Run l R n0 Q K h cells slots pc Ls (st) :=
  Run.pure C (Or.inr trivial) (fun p e s m args below meth c hx hby hown hZ T locs X eT target k => by subst hp; exact XS.aconstNull X.here hx rfl (hb hby hd) k) r
theorem r_iadd (C : Ctx l R Z own nm code maxL ret fl n0 kz K) {x y : Int32} (hd : decode code pc = .ok (.iadd, 1)) (hp : pc + 1 = pc') (r : Run l R n0 Q K h cells slots pc' Ls (.int (x + y) :: st)) : Run l R n0 Q K h cells slots pc Ls (.int y :: .int x :: st) :=
  Run.pure C (Or.inr trivial) (fun p e s m args below meth c hx hby hown hZ T locs X eT target k => by subst hp; exact XS.iadd X.here hx rfl (hb hby hd) rfl k) r
theorem r_isub (C : Ctx l R Z own nm code maxL ret fl n0 kz K) {x y : Int32} (hd : decode code pc = .ok (.isub, 1)) (hp : pc + 1 = pc') (r : Run l R n0 Q K h cells slots pc' Ls (.int (x - y) :: st)) : Run l R n0 Q K h cells slots pc Ls (.int y :: .int x :: st) :=
  Run.pure C (Or.inr trivial) (fun p e s m args below meth c hx hby hown hZ T locs X eT target k => by subst hp; exact XS.isub X.here hx rfl (hb hby hd) rfl k) r
theorem r_imul (C : Ctx l R Z own nm code maxL ret fl n0 kz K) {x y : Int32} (hd : decode code pc = .ok (.imul, 1)) (hp : pc + 1 = pc') (r : Run l R n0 Q K h cells slots pc' Ls (.int (x * y) :: st)) : Run l R n0 Q K h cells slots pc Ls (.int y :: .int x :: st) :=
  Run.pure C (Or.inr trivial) (fun p e s m args below meth c hx hby hown hZ T locs X eT target k => by subst hp; exact XS.imul X.here hx rfl (hb hby hd) rfl k) r
theorem r_iand (C : Ctx l R Z own nm code maxL ret fl n0 kz K) {x y : Int32} (hd : decode code pc = .ok (.iand, 1)) (hp : pc + 1 = pc') (r : Run l R n0 Q K h cells slots pc' Ls (.int (x &&& y) :: st)) : Run l R n0 Q K h cells slots pc Ls (.int y :: .int x :: st) :=
  Run.pure C (Or.inr trivial) (fun p e s m args below meth c hx hby hown hZ T locs X eT target k => by subst hp; exact XS.iand X.here hx rfl (hb hby hd) rfl k) r
theorem r_ior (C : Ctx l R Z own nm code maxL ret fl n0 kz K) {x y : Int32} (hd : decode code pc = .ok (.ior, 1)) (hp : pc + 1 = pc') (r : Run l R n0 Q K h cells slots pc' Ls (.int (x ||| y) :: st)) : Run l R n0 Q K h cells slots pc Ls (.int y :: .int x :: st) :=
  Run.pure C (Or.inr trivial) (fun p e s m args below meth c hx hby hown hZ T locs X eT target k => by subst hp; exact XT.ior X.here hx rfl (hb hby hd) rfl k) r
theorem r_ixor (C : Ctx l R Z own nm code maxL ret fl n0 kz K) {x y : Int32} (hd : decode code pc = .ok (.ixor, 1)) (hp : pc + 1 = pc') (r : Run l R n0 Q K h cells slots pc' Ls (.int (x ^^^ y) :: st)) : Run l R n0 Q K h cells slots pc Ls (.int y :: .int x :: st) :=
  Run.pure C (Or.inr trivial) (fun p e s m args below meth c hx hby hown hZ T locs X eT target k => by subst hp; exact XT.ixor X.here hx rfl (hb hby hd) rfl k) r
theorem r_ishl (C : Ctx l R Z own nm code maxL ret fl n0 kz K) {x y : Int32} (hd : decode code pc = .ok (.ishl, 1)) (hp : pc + 1 = pc') (r : Run l R n0 Q K h cells slots pc' Ls (.int (x <<< (y &&& 31)) :: st)) : Run l R n0 Q K h cells slots pc Ls (.int y :: .int x :: st) :=
  Run.pure C (Or.inr trivial) (fun p e s m args below meth c hx hby hown hZ T locs X eT target k => by subst hp; exact XT.ishl X.here hx rfl (hb hby hd) rfl k) r
theorem r_ishr (C : Ctx l R Z own nm code maxL ret fl n0 kz K) {x y : Int32} (hd : decode code pc = .ok (.ishr, 1)) (hp : pc + 1 = pc') (r : Run l R n0 Q K h cells slots pc' Ls (.int (x >>> (y &&& 31)) :: st)) : Run l R n0 Q K h cells slots pc Ls (.int y :: .int x :: st) :=
  Run.pure C (Or.inr trivial) (fun p e s m args below meth c hx hby hown hZ T locs X eT target k => by subst hp; exact XT.ishr X.here hx rfl (hb hby hd) rfl k) r
theorem r_iushr (C : Ctx l R Z own nm code maxL ret fl n0 kz K) {x y : Int32} (hd : decode code pc = .ok (.iushr, 1)) (hp : pc + 1 = pc') (r : Run l R n0 Q K h cells slots pc' Ls (.int (XT.ushr x y) :: st)) : Run l R n0 Q K h cells slots pc Ls (.int y :: .int x :: st) :=
  Run.pure C (Or.inr trivial) (fun p e s m args below meth c hx hby hown hZ T locs X eT target k => by subst hp; exact XT.iushr X.here hx rfl (hb hby hd) rfl k) r
theorem r_ladd (C : Ctx l R Z own nm code maxL ret fl n0 kz K) {x y : Int64} (hd : decode code pc = .ok (.ladd, 1)) (hp : pc + 1 = pc') (r : Run l R n0 Q K h cells slots pc' Ls (.long (x + y) :: st)) : Run l R n0 Q K h cells slots pc Ls (.long y :: .long x :: st) :=
  Run.pure C (Or.inr trivial) (fun p e s m args below meth c hx hby hown hZ T locs X eT target k => by subst hp; exact XT.ladd X.here hx rfl (hb hby hd) rfl k) r
theorem r_lsub (C : Ctx l R Z own nm code maxL ret fl n0 kz K) {x y : Int64} (hd : decode code pc = .ok (.lsub, 1)) (hp : pc + 1 = pc') (r : Run l R n0 Q K h cells slots pc' Ls (.long (x - y) :: st)) : Run l R n0 Q K h cells slots pc Ls (.long y :: .long x :: st) :=
  Run.pure C (Or.inr trivial) (fun p e s m args below meth c hx hby hown hZ T locs X eT target k => by subst hp; exact XT.lsub X.here hx rfl (hb hby hd) rfl k) r
theorem r_lmul (C : Ctx l R Z own nm code maxL ret fl n0 kz K) {x y : Int64} (hd : decode code pc = .ok (.lmul, 1)) (hp : pc + 1 = pc') (r : Run l R n0 Q K h cells slots pc' Ls (.long (x * y) :: st)) : Run l R n0 Q K h cells slots pc Ls (.long y :: .long x :: st) :=
  Run.pure C (Or.inr trivial) (fun p e s m args below meth c hx hby hown hZ T locs X eT target k => by subst hp; exact XT.lmul X.here hx rfl (hb hby hd) rfl k) r
theorem r_land (C : Ctx l R Z own nm code maxL ret fl n0 kz K) {x y : Int64} (hd : decode code pc = .ok (.land, 1)) (hp : pc + 1 = pc') (r : Run l R n0 Q K h cells slots pc' Ls (.long (x &&& y) :: st)) : Run l R n0 Q K h cells slots pc Ls (.long y :: .long x :: st) :=
  Run.pure C (Or.inr trivial) (fun p e s m args below meth c hx hby hown hZ T locs X eT target k => by subst hp; exact XT.land X.here hx rfl (hb hby hd) rfl k) r
theorem r_lor (C : Ctx l R Z own nm code maxL ret fl n0 kz K) {x y : Int64} (hd : decode code pc = .ok (.lor, 1)) (hp : pc + 1 = pc') (r : Run l R n0 Q K h cells slots pc' Ls (.long (x ||| y) :: st)) : Run l R n0 Q K h cells slots pc Ls (.long y :: .long x :: st) :=
  Run.pure C (Or.inr trivial) (fun p e s m args below meth c hx hby hown hZ T locs X eT target k => by subst hp; exact XT.lor X.here hx rfl (hb hby hd) rfl k) r
theorem r_lxor (C : Ctx l R Z own nm code maxL ret fl n0 kz K) {x y : Int64} (hd : decode code pc = .ok (.lxor, 1)) (hp : pc + 1 = pc') (r : Run l R n0 Q K h cells slots pc' Ls (.long (x ^^^ y) :: st)) : Run l R n0 Q K h cells slots pc Ls (.long y :: .long x :: st) :=
  Run.pure C (Or.inr trivial) (fun p e s m args below meth c hx hby hown hZ T locs X eT target k => by subst hp; exact XT.lxor X.here hx rfl (hb hby hd) rfl k) r
theorem r_lshl (C : Ctx l R Z own nm code maxL ret fl n0 kz K) {x : Int64} {y : Int32} (hd : decode code pc = .ok (.lshl, 1)) (hp : pc + 1 = pc') (r : Run l R n0 Q K h cells slots pc' Ls (.long (x <<< (y.toInt64 &&& 63)) :: st)) : Run l R n0 Q K h cells slots pc Ls (.int y :: .long x :: st) :=
  Run.pure C (Or.inr trivial) (fun p e s m args below meth c hx hby hown hZ T locs X eT target k => by subst hp; exact XT.lshl X.here hx rfl (hb hby hd) rfl k) r
theorem r_lshr (C : Ctx l R Z own nm code maxL ret fl n0 kz K) {x : Int64} {y : Int32} (hd : decode code pc = .ok (.lshr, 1)) (hp : pc + 1 = pc') (r : Run l R n0 Q K h cells slots pc' Ls (.long (x >>> (y.toInt64 &&& 63)) :: st)) : Run l R n0 Q K h cells slots pc Ls (.int y :: .long x :: st) :=
  Run.pure C (Or.inr trivial) (fun p e s m args below meth c hx hby hown hZ T locs X eT target k => by subst hp; exact XT.lshr X.here hx rfl (hb hby hd) rfl k) r
theorem r_lushr (C : Ctx l R Z own nm code maxL ret fl n0 kz K) {x : Int64} {y : Int32} (hd : decode code pc = .ok (.lushr, 1)) (hp : pc + 1 = pc') (r : Run l R n0 Q K h cells slots pc' Ls (.long (XT.ushrL x y) :: st)) : Run l R n0 Q K h cells slots pc Ls (.int y :: .long x :: st) :=
  Run.pure C (Or.inr trivial) (fun p e s m args below meth c hx hby hown hZ T locs X eT target k => by subst hp; exact XT.lushr X.here hx rfl (hb hby hd) rfl k) r
theorem r_idiv (C : Ctx l R Z own nm code maxL ret fl n0 kz K) {x y : Int32} (hd : decode code pc = .ok (.idiv, 1)) (hp : pc + 1 = pc') (hy : y ≠ 0) (r : Run l R n0 Q K h cells slots pc' Ls (.int (x / y) :: st)) : Run l R n0 Q K h cells slots pc Ls (.int y :: .int x :: st) :=
  Run.pure C (Or.inr trivial) (fun p e s m args below meth c hx hby hown hZ T locs X eT target k => by subst hp; exact XS.idiv X.here hx rfl (hb hby hd) rfl hy k) r
theorem r_irem (C : Ctx l R Z own nm code maxL ret fl n0 kz K) {x y : Int32} (hd : decode code pc = .ok (.irem, 1)) (hp : pc + 1 = pc') (hy : y ≠ 0) (r : Run l R n0 Q K h cells slots pc' Ls (.int (x % y) :: st)) : Run l R n0 Q K h cells slots pc Ls (.int y :: .int x :: st) :=
  Run.pure C (Or.inr trivial) (fun p e s m args below meth c hx hby hown hZ T locs X eT target k => by subst hp; exact iremM X hx rfl (hb hby hd) rfl hy k) r
theorem r_ldiv (C : Ctx l R Z own nm code maxL ret fl n0 kz K) {x y : Int64} (hd : decode code pc = .ok (.ldiv, 1)) (hp : pc + 1 = pc') (hy : y ≠ 0) (r : Run l R n0 Q K h cells slots pc' Ls (.long (x / y) :: st)) : Run l R n0 Q K h cells slots pc Ls (.long y :: .long x :: st) :=
  Run.pure C (Or.inr trivial) (fun p e s m args below meth c hx hby hown hZ T locs X eT target k => by subst hp; exact XT.ldiv X.here hx rfl (hb hby hd) rfl hy k) r
theorem r_lrem (C : Ctx l R Z own nm code maxL ret fl n0 kz K) {x y : Int64} (hd : decode code pc = .ok (.lrem, 1)) (hp : pc + 1 = pc') (hy : y ≠ 0) (r : Run l R n0 Q K h cells slots pc' Ls (.long (x - (x / y) * y) :: st)) : Run l R n0 Q K h cells slots pc Ls (.long y :: .long x :: st) :=
  Run.pure C (Or.inr trivial) (fun p e s m args below meth c hx hby hown hZ T locs X eT target k => by subst hp; exact XT.lrem X.here hx rfl (hb hby hd) rfl hy k) r
theorem r_ineg (C : Ctx l R Z own nm code maxL ret fl n0 kz K) {x : Int32} (hd : decode code pc = .ok (.ineg, 1)) (hp : pc + 1 = pc') (r : Run l R n0 Q K h cells slots pc' Ls (.int (-x) :: st)) : Run l R n0 Q K h cells slots pc Ls (.int x :: st) :=
  Run.pure C (Or.inr trivial) (fun p e s m args below meth c hx hby hown hZ T locs X eT target k => by subst hp; exact XS.ineg X.here hx rfl (hb hby hd) rfl k) r
theorem r_lneg (C : Ctx l R Z own nm code maxL ret fl n0 kz K) {x : Int64} (hd : decode code pc = .ok (.lneg, 1)) (hp : pc + 1 = pc') (r : Run l R n0 Q K h cells slots pc' Ls (.long (-x) :: st)) : Run l R n0 Q K h cells slots pc Ls (.long x :: st) :=
  Run.pure C (Or.inr trivial) (fun p e s m args below meth c hx hby hown hZ T locs X eT target k => by subst hp; exact XT.lneg X.here hx rfl (hb hby hd) rfl k) r
theorem r_i2l (C : Ctx l R Z own nm code maxL ret fl n0 kz K) {x : Int32} (hd : decode code pc = .ok (.i2l, 1)) (hp : pc + 1 = pc') (r : Run l R n0 Q K h cells slots pc' Ls (.long (x.toInt64) :: st)) : Run l R n0 Q K h cells slots pc Ls (.int x :: st) :=
  Run.pure C (Or.inr trivial) (fun p e s m args below meth c hx hby hown hZ T locs X eT target k => by subst hp; exact XT.i2l X.here hx rfl (hb hby hd) rfl k) r
theorem r_l2i (C : Ctx l R Z own nm code maxL ret fl n0 kz K) {x : Int64} (hd : decode code pc = .ok (.l2i, 1)) (hp : pc + 1 = pc') (r : Run l R n0 Q K h cells slots pc' Ls (.int (x.toInt32) :: st)) : Run l R n0 Q K h cells slots pc Ls (.long x :: st) :=
  Run.pure C (Or.inr trivial) (fun p e s m args below meth c hx hby hown hZ T locs X eT target k => by subst hp; exact XT.l2i X.here hx rfl (hb hby hd) rfl k) r
theorem r_i2b (C : Ctx l R Z own nm code maxL ret fl n0 kz K) {x : Int32} (hd : decode code pc = .ok (.i2b, 1)) (hp : pc + 1 = pc') (r : Run l R n0 Q K h cells slots pc' Ls (.int (x.toInt8.toInt32) :: st)) : Run l R n0 Q K h cells slots pc Ls (.int x :: st) :=
  Run.pure C (Or.inr trivial) (fun p e s m args below meth c hx hby hown hZ T locs X eT target k => by subst hp; exact XT.i2b X.here hx rfl (hb hby hd) rfl k) r
theorem r_i2c (C : Ctx l R Z own nm code maxL ret fl n0 kz K) {x : Int32} (hd : decode code pc = .ok (.i2c, 1)) (hp : pc + 1 = pc') (r : Run l R n0 Q K h cells slots pc' Ls (.int (x.toUInt32.toUInt16.toUInt32.toInt32) :: st)) : Run l R n0 Q K h cells slots pc Ls (.int x :: st) :=
  Run.pure C (Or.inr trivial) (fun p e s m args below meth c hx hby hown hZ T locs X eT target k => by subst hp; exact XT.i2c X.here hx rfl (hb hby hd) rfl k) r
theorem r_i2s (C : Ctx l R Z own nm code maxL ret fl n0 kz K) {x : Int32} (hd : decode code pc = .ok (.i2s, 1)) (hp : pc + 1 = pc') (r : Run l R n0 Q K h cells slots pc' Ls (.int (x.toInt16.toInt32) :: st)) : Run l R n0 Q K h cells slots pc Ls (.int x :: st) :=
  Run.pure C (Or.inr trivial) (fun p e s m args below meth c hx hby hown hZ T locs X eT target k => by subst hp; exact XT.i2s X.here hx rfl (hb hby hd) rfl k) r
theorem r_dup (C : Ctx l R Z own nm code maxL ret fl n0 kz K) {x : Value} (hd : decode code pc = .ok (.dup, 1)) (hp : pc + 1 = pc') (hc : x.category = 1) (r : Run l R n0 Q K h cells slots pc' Ls (x :: x :: st)) : Run l R n0 Q K h cells slots pc Ls (x :: st) :=
  Run.pure C (Or.inr trivial) (fun p e s m args below meth c hx hby hown hZ T locs X eT target k => by subst hp; exact XS.dup X.here hx rfl (hb hby hd) rfl hc k) r
theorem r_pop (C : Ctx l R Z own nm code maxL ret fl n0 kz K) {x : Value} (hd : decode code pc = .ok (.pop, 1)) (hp : pc + 1 = pc') (hc : x.category = 1) (r : Run l R n0 Q K h cells slots pc' Ls (st)) : Run l R n0 Q K h cells slots pc Ls (x :: st) :=
  Run.pure C (Or.inr trivial) (fun p e s m args below meth c hx hby hown hZ T locs X eT target k => by subst hp; exact XT.pop X.here hx rfl (hb hby hd) rfl hc k) r
theorem r_dup_x1 (C : Ctx l R Z own nm code maxL ret fl n0 kz K) {x y : Value} (hd : decode code pc = .ok (.dup_x1, 1)) (hp : pc + 1 = pc') (hc : x.category = 1) (hc' : y.category = 1) (r : Run l R n0 Q K h cells slots pc' Ls (x :: y :: x :: st)) : Run l R n0 Q K h cells slots pc Ls (x :: y :: st) :=
  Run.pure C (Or.inr trivial) (fun p e s m args below meth c hx hby hown hZ T locs X eT target k => by subst hp; exact XT.dupX1 X.here hx rfl (hb hby hd) rfl hc hc' k) r
theorem r_dup2 (C : Ctx l R Z own nm code maxL ret fl n0 kz K) {x y : Value} (hd : decode code pc = .ok (.dup2, 1)) (hp : pc + 1 = pc') (hc : x.category = 1) (hc' : y.category = 1) (r : Run l R n0 Q K h cells slots pc' Ls (x :: y :: x :: y :: st)) : Run l R n0 Q K h cells slots pc Ls (x :: y :: st) :=
  Run.pure C (Or.inr trivial) (fun p e s m args below meth c hx hby hown hZ T locs X eT target k => by subst hp; exact XT.dup2 X.here hx rfl (hb hby hd) rfl hc hc' k) r
theorem r_dup2L (C : Ctx l R Z own nm code maxL ret fl n0 kz K) {x : Int64} (hd : decode code pc = .ok (.dup2, 1)) (hp : pc + 1 = pc') (r : Run l R n0 Q K h cells slots pc' Ls (.long x :: .long x :: st)) : Run l R n0 Q K h cells slots pc Ls (.long x :: st) :=
  Run.pure C (Or.inr trivial) (fun p e s m args below meth c hx hby hown hZ T locs X eT target k => by subst hp; exact XT.dup2L X.here hx rfl (hb hby hd) rfl k) r
theorem r_iinc (C : Ctx l R Z own nm code maxL ret fl n0 kz K) {k : Nat} {cst : Int} {x v : Int32} (hd : decode code pc = .ok (.iinc k cst, 3)) (hp : pc + 3 = pc') (hv : Int32.ofInt cst = v) (hl : Ls[k]? = some (.val (.int x))) (hl' : storeLocals Ls k (.int (x + v)) = some Ls') (r : Run l R n0 Q K h cells slots pc' Ls' (st)) : Run l R n0 Q K h cells slots pc Ls (st) :=
  Run.pure C (Or.inr trivial) (fun p e s m args below meth c hx hby hown hZ T locs X eT target k => by subst hp; exact XT.iincV X.here hx rfl v (hb hby hd) hv hl hl' k) r
theorem r_goto (C : Ctx l R Z own nm code maxL ret fl n0 kz K) {o : Int} (hd : decode code pc = .ok (.goto o, 3)) (ho : 0 ≤ (pc : Int) + o) (hp : ((pc : Int) + o).toNat = pc') (r : Run l R n0 Q K h cells slots pc' Ls (st)) : Run l R n0 Q K h cells slots pc Ls (st) :=
  Run.pure C (Or.inr trivial) (fun p e s m args below meth c hx hby hown hZ T locs X eT target k => by exact XS.goto X.here hx rfl (pc0 := pc) rfl (hb hby hd) ho hp k) r
theorem r_icmp_eq_t (C : Ctx l R Z own nm code maxL ret fl n0 kz K) {o : Int} {x y : Int32} (hd : decode code pc = .ok (.if_icmp .eq o, 3)) (ho : 0 ≤ (pc : Int) + o) (hp : ((pc : Int) + o).toNat = pc') (q : x = y) (r : Run l R n0 Q K h cells slots pc' Ls (st)) : Run l R n0 Q K h cells slots pc Ls (.int y :: .int x :: st) :=
  Run.pure C (Or.inr trivial) (fun p e s m args below meth c hx hby hown hZ T locs X eT target k => by exact XS.icmpYes X.here hx rfl (pc0 := pc) rfl (hb hby hd) rfl (XT.ii_eq_t q) ho hp k) r
theorem r_icmp_eq_f (C : Ctx l R Z own nm code maxL ret fl n0 kz K) {o : Int} {x y : Int32} (hd : decode code pc = .ok (.if_icmp .eq o, 3)) (hp : pc + 3 = pc') (q : ¬ x = y) (r : Run l R n0 Q K h cells slots pc' Ls (st)) : Run l R n0 Q K h cells slots pc Ls (.int y :: .int x :: st) :=
  Run.pure C (Or.inr trivial) (fun p e s m args below meth c hx hby hown hZ T locs X eT target k => by subst hp; exact XS.icmpNo X.here hx rfl (hb hby hd) rfl (XT.ii_eq_f q) k) r
theorem r_icmp_eq (C : Ctx l R Z own nm code maxL ret fl n0 kz K) {o : Int} {pt : Nat} {x y : Int32} (hd : decode code pc = .ok (.if_icmp .eq o, 3)) (ho : 0 ≤ (pc : Int) + o) (hp : ((pc : Int) + o).toNat = pt) (hp' : pc + 3 = pc') (rt : x = y → Run l R n0 Q K h cells slots pt Ls st) (rf : ¬ x = y → Run l R n0 Q K h cells slots pc' Ls st) : Run l R n0 Q K h cells slots pc Ls (.int y :: .int x :: st) := by
  by_cases q : x = y
  · exact r_icmp_eq_t C hd ho hp q (rt q)
  · exact r_icmp_eq_f C hd hp' q (rf q)
theorem r_if_eq_t (C : Ctx l R Z own nm code maxL ret fl n0 kz K) {o : Int} {x : Int32} (hd : decode code pc = .ok (.ifCond .eq o, 3)) (ho : 0 ≤ (pc : Int) + o) (hp : ((pc : Int) + o).toNat = pc') (q : x = 0) (r : Run l R n0 Q K h cells slots pc' Ls (st)) : Run l R n0 Q K h cells slots pc Ls (.int x :: st) :=
  Run.pure C (Or.inr trivial) (fun p e s m args below meth c hx hby hown hZ T locs X eT target k => by exact XS.ifYes X.here hx rfl (pc0 := pc) rfl (hb hby hd) rfl (XT.i0_eq_t q) ho hp k) r
theorem r_if_eq_f (C : Ctx l R Z own nm code maxL ret fl n0 kz K) {o : Int} {x : Int32} (hd : decode code pc = .ok (.ifCond .eq o, 3)) (hp : pc + 3 = pc') (q : ¬ x = 0) (r : Run l R n0 Q K h cells slots pc' Ls (st)) : Run l R n0 Q K h cells slots pc Ls (.int x :: st) :=
  Run.pure C (Or.inr trivial) (fun p e s m args below meth c hx hby hown hZ T locs X eT target k => by subst hp; exact XS.ifNo X.here hx rfl (hb hby hd) rfl (XT.i0_eq_f q) k) r
theorem r_if_eq (C : Ctx l R Z own nm code maxL ret fl n0 kz K) {o : Int} {pt : Nat} {x : Int32} (hd : decode code pc = .ok (.ifCond .eq o, 3)) (ho : 0 ≤ (pc : Int) + o) (hp : ((pc : Int) + o).toNat = pt) (hp' : pc + 3 = pc') (rt : x = 0 → Run l R n0 Q K h cells slots pt Ls st) (rf : ¬ x = 0 → Run l R n0 Q K h cells slots pc' Ls st) : Run l R n0 Q K h cells slots pc Ls (.int x :: st) := by
  by_cases q : x = 0
  · exact r_if_eq_t C hd ho hp q (rt q)
  · exact r_if_eq_f C hd hp' q (rf q)
theorem r_lcmp_eq (C : Ctx l R Z own nm code maxL ret fl n0 kz K) {o : Int} {pt : Nat} {x y : Int64} (hd : decode code pc = .ok (.lcmp, 1)) (hd2 : decode code (pc + 1) = .ok (.ifCond .eq o, 3)) (ho : 0 ≤ ((pc + 1 : Nat) : Int) + o) (hp : (((pc + 1 : Nat) : Int) + o).toNat = pt) (hp' : pc + 4 = pc') (rt : x = y → Run l R n0 Q K h cells slots pt Ls st) (rf : ¬ x = y → Run l R n0 Q K h cells slots pc' Ls st) : Run l R n0 Q K h cells slots pc Ls (.long y :: .long x :: st) := by
  by_cases q : x = y
  · exact Run.pure C (Or.inr trivial) (fun p e s m args below meth c hx hby hown hZ T locs X eT target k => XT.lcmp X.here hx rfl (hb hby hd) rfl (XS.ifYes X.here hx rfl (pc0 := pc + 1) rfl (hb hby hd2) rfl (XT.ll_eq_t q) ho hp k)) (rt q)
  · subst hp'; exact Run.pure C (Or.inr trivial) (fun p e s m args below meth c hx hby hown hZ T locs X eT target k => XT.lcmp X.here hx rfl (hb hby hd) rfl (XS.ifNo X.here hx rfl (hb hby hd2) rfl (XT.ll_eq_f q) k)) (rf q)
theorem r_icmp_ne_t (C : Ctx l R Z own nm code maxL ret fl n0 kz K) {o : Int} {x y : Int32} (hd : decode code pc = .ok (.if_icmp .ne o, 3)) (ho : 0 ≤ (pc : Int) + o) (hp : ((pc : Int) + o).toNat = pc') (q : ¬ x = y) (r : Run l R n0 Q K h cells slots pc' Ls (st)) : Run l R n0 Q K h cells slots pc Ls (.int y :: .int x :: st) :=
  Run.pure C (Or.inr trivial) (fun p e s m args below meth c hx hby hown hZ T locs X eT target k => by exact XS.icmpYes X.here hx rfl (pc0 := pc) rfl (hb hby hd) rfl (XT.ii_ne_t q) ho hp k) r
theorem r_icmp_ne_f (C : Ctx l R Z own nm code maxL ret fl n0 kz K) {o : Int} {x y : Int32} (hd : decode code pc = .ok (.if_icmp .ne o, 3)) (hp : pc + 3 = pc') (q : x = y) (r : Run l R n0 Q K h cells slots pc' Ls (st)) : Run l R n0 Q K h cells slots pc Ls (.int y :: .int x :: st) :=
  Run.pure C (Or.inr trivial) (fun p e s m args below meth c hx hby hown hZ T locs X eT target k => by subst hp; exact XS.icmpNo X.here hx rfl (hb hby hd) rfl (XT.ii_ne_f q) k) r
theorem r_icmp_ne (C : Ctx l R Z own nm code maxL ret fl n0 kz K) {o : Int} {pt : Nat} {x y : Int32} (hd : decode code pc = .ok (.if_icmp .ne o, 3)) (ho : 0 ≤ (pc : Int) + o) (hp : ((pc : Int) + o).toNat = pt) (hp' : pc + 3 = pc') (rt : ¬ x = y → Run l R n0 Q K h cells slots pt Ls st) (rf : x = y → Run l R n0 Q K h cells slots pc' Ls st) : Run l R n0 Q K h cells slots pc Ls (.int y :: .int x :: st) := by
  by_cases q : x = y
  · exact r_icmp_ne_f C hd hp' q (rf q)
  · exact r_icmp_ne_t C hd ho hp q (rt q)
theorem r_if_ne_t (C : Ctx l R Z own nm code maxL ret fl n0 kz K) {o : Int} {x : Int32} (hd : decode code pc = .ok (.ifCond .ne o, 3)) (ho : 0 ≤ (pc : Int) + o) (hp : ((pc : Int) + o).toNat = pc') (q : ¬ x = 0) (r : Run l R n0 Q K h cells slots pc' Ls (st)) : Run l R n0 Q K h cells slots pc Ls (.int x :: st) :=
  Run.pure C (Or.inr trivial) (fun p e s m args below meth c hx hby hown hZ T locs X eT target k => by exact XS.ifYes X.here hx rfl (pc0 := pc) rfl (hb hby hd) rfl (XT.i0_ne_t q) ho hp k) r
theorem r_if_ne_f (C : Ctx l R Z own nm code maxL ret fl n0 kz K) {o : Int} {x : Int32} (hd : decode code pc = .ok (.ifCond .ne o, 3)) (hp : pc + 3 = pc') (q : x = 0) (r : Run l R n0 Q K h cells slots pc' Ls (st)) : Run l R n0 Q K h cells slots pc Ls (.int x :: st) :=
  Run.pure C (Or.inr trivial) (fun p e s m args below meth c hx hby hown hZ T locs X eT target k => by subst hp; exact XS.ifNo X.here hx rfl (hb hby hd) rfl (XT.i0_ne_f q) k) r
theorem r_if_ne (C : Ctx l R Z own nm code maxL ret fl n0 kz K) {o : Int} {pt : Nat} {x : Int32} (hd : decode code pc = .ok (.ifCond .ne o, 3)) (ho : 0 ≤ (pc : Int) + o) (hp : ((pc : Int) + o).toNat = pt) (hp' : pc + 3 = pc') (rt : ¬ x = 0 → Run l R n0 Q K h cells slots pt Ls st) (rf : x = 0 → Run l R n0 Q K h cells slots pc' Ls st) : Run l R n0 Q K h cells slots pc Ls (.int x :: st) := by
  by_cases q : x = 0
  · exact r_if_ne_f C hd hp' q (rf q)
  · exact r_if_ne_t C hd ho hp q (rt q)
theorem r_lcmp_ne (C : Ctx l R Z own nm code maxL ret fl n0 kz K) {o : Int} {pt : Nat} {x y : Int64} (hd : decode code pc = .ok (.lcmp, 1)) (hd2 : decode code (pc + 1) = .ok (.ifCond .ne o, 3)) (ho : 0 ≤ ((pc + 1 : Nat) : Int) + o) (hp : (((pc + 1 : Nat) : Int) + o).toNat = pt) (hp' : pc + 4 = pc') (rt : ¬ x = y → Run l R n0 Q K h cells slots pt Ls st) (rf : x = y → Run l R n0 Q K h cells slots pc' Ls st) : Run l R n0 Q K h cells slots pc Ls (.long y :: .long x :: st) := by
  by_cases q : x = y
  · subst hp'; exact Run.pure C (Or.inr trivial) (fun p e s m args below meth c hx hby hown hZ T locs X eT target k => XT.lcmp X.here hx rfl (hb hby hd) rfl (XS.ifNo X.here hx rfl (hb hby hd2) rfl (XT.ll_ne_f q) k)) (rf q)
  · exact Run.pure C (Or.inr trivial) (fun p e s m args below meth c hx hby hown hZ T locs X eT target k => XT.lcmp X.here hx rfl (hb hby hd) rfl (XS.ifYes X.here hx rfl (pc0 := pc + 1) rfl (hb hby hd2) rfl (XT.ll_ne_t q) ho hp k)) (rt q)
theorem r_icmp_lt_t (C : Ctx l R Z own nm code maxL ret fl n0 kz K) {o : Int} {x y : Int32} (hd : decode code pc = .ok (.if_icmp .lt o, 3)) (ho : 0 ≤ (pc : Int) + o) (hp : ((pc : Int) + o).toNat = pc') (q : x < y) (r : Run l R n0 Q K h cells slots pc' Ls (st)) : Run l R n0 Q K h cells slots pc Ls (.int y :: .int x :: st) :=
  Run.pure C (Or.inr trivial) (fun p e s m args below meth c hx hby hown hZ T locs X eT target k => by exact XS.icmpYes X.here hx rfl (pc0 := pc) rfl (hb hby hd) rfl (XT.ii_lt_t q) ho hp k) r
theorem r_icmp_lt_f (C : Ctx l R Z own nm code maxL ret fl n0 kz K) {o : Int} {x y : Int32} (hd : decode code pc = .ok (.if_icmp .lt o, 3)) (hp : pc + 3 = pc') (q : ¬ x < y) (r : Run l R n0 Q K h cells slots pc' Ls (st)) : Run l R n0 Q K h cells slots pc Ls (.int y :: .int x :: st) :=
  Run.pure C (Or.inr trivial) (fun p e s m args below meth c hx hby hown hZ T locs X eT target k => by subst hp; exact XS.icmpNo X.here hx rfl (hb hby hd) rfl (XT.ii_lt_f q) k) r
theorem r_icmp_lt (C : Ctx l R Z own nm code maxL ret fl n0 kz K) {o : Int} {pt : Nat} {x y : Int32} (hd : decode code pc = .ok (.if_icmp .lt o, 3)) (ho : 0 ≤ (pc : Int) + o) (hp : ((pc : Int) + o).toNat = pt) (hp' : pc + 3 = pc') (rt : x < y → Run l R n0 Q K h cells slots pt Ls st) (rf : ¬ x < y → Run l R n0 Q K h cells slots pc' Ls st) : Run l R n0 Q K h cells slots pc Ls (.int y :: .int x :: st) := by
  by_cases q : x < y
  · exact r_icmp_lt_t C hd ho hp q (rt q)
  · exact r_icmp_lt_f C hd hp' q (rf q)
theorem r_if_lt_t (C : Ctx l R Z own nm code maxL ret fl n0 kz K) {o : Int} {x : Int32} (hd : decode code pc = .ok (.ifCond .lt o, 3)) (ho : 0 ≤ (pc : Int) + o) (hp : ((pc : Int) + o).toNat = pc') (q : x < 0) (r : Run l R n0 Q K h cells slots pc' Ls (st)) : Run l R n0 Q K h cells slots pc Ls (.int x :: st) :=
  Run.pure C (Or.inr trivial) (fun p e s m args below meth c hx hby hown hZ T locs X eT target k => by exact XS.ifYes X.here hx rfl (pc0 := pc) rfl (hb hby hd) rfl (XT.i0_lt_t q) ho hp k) r
theorem r_if_lt_f (C : Ctx l R Z own nm code maxL ret fl n0 kz K) {o : Int} {x : Int32} (hd : decode code pc = .ok (.ifCond .lt o, 3)) (hp : pc + 3 = pc') (q : ¬ x < 0) (r : Run l R n0 Q K h cells slots pc' Ls (st)) : Run l R n0 Q K h cells slots pc Ls (.int x :: st) :=
  Run.pure C (Or.inr trivial) (fun p e s m args below meth c hx hby hown hZ T locs X eT target k => by subst hp; exact XS.ifNo X.here hx rfl (hb hby hd) rfl (XT.i0_lt_f q) k) r
theorem r_if_lt (C : Ctx l R Z own nm code maxL ret fl n0 kz K) {o : Int} {pt : Nat} {x : Int32} (hd : decode code pc = .ok (.ifCond .lt o, 3)) (ho : 0 ≤ (pc : Int) + o) (hp : ((pc : Int) + o).toNat = pt) (hp' : pc + 3 = pc') (rt : x < 0 → Run l R n0 Q K h cells slots pt Ls st) (rf : ¬ x < 0 → Run l R n0 Q K h cells slots pc' Ls st) : Run l R n0 Q K h cells slots pc Ls (.int x :: st) := by
  by_cases q : x < 0
  · exact r_if_lt_t C hd ho hp q (rt q)
  · exact r_if_lt_f C hd hp' q (rf q)
theorem r_lcmp_lt (C : Ctx l R Z own nm code maxL ret fl n0 kz K) {o : Int} {pt : Nat} {x y : Int64} (hd : decode code pc = .ok (.lcmp, 1)) (hd2 : decode code (pc + 1) = .ok (.ifCond .lt o, 3)) (ho : 0 ≤ ((pc + 1 : Nat) : Int) + o) (hp : (((pc + 1 : Nat) : Int) + o).toNat = pt) (hp' : pc + 4 = pc') (rt : x < y → Run l R n0 Q K h cells slots pt Ls st) (rf : ¬ x < y → Run l R n0 Q K h cells slots pc' Ls st) : Run l R n0 Q K h cells slots pc Ls (.long y :: .long x :: st) := by
  by_cases q : x < y
  · exact Run.pure C (Or.inr trivial) (fun p e s m args below meth c hx hby hown hZ T locs X eT target k => XT.lcmp X.here hx rfl (hb hby hd) rfl (XS.ifYes X.here hx rfl (pc0 := pc + 1) rfl (hb hby hd2) rfl (XT.ll_lt_t q) ho hp k)) (rt q)
  · subst hp'; exact Run.pure C (Or.inr trivial) (fun p e s m args below meth c hx hby hown hZ T locs X eT target k => XT.lcmp X.here hx rfl (hb hby hd) rfl (XS.ifNo X.here hx rfl (hb hby hd2) rfl (XT.ll_lt_f q) k)) (rf q)
theorem r_icmp_ge_t (C : Ctx l R Z own nm code maxL ret fl n0 kz K) {o : Int} {x y : Int32} (hd : decode code pc = .ok (.if_icmp .ge o, 3)) (ho : 0 ≤ (pc : Int) + o) (hp : ((pc : Int) + o).toNat = pc') (q : ¬ x < y) (r : Run l R n0 Q K h cells slots pc' Ls (st)) : Run l R n0 Q K h cells slots pc Ls (.int y :: .int x :: st) :=
  Run.pure C (Or.inr trivial) (fun p e s m args below meth c hx hby hown hZ T locs X eT target k => by exact XS.icmpYes X.here hx rfl (pc0 := pc) rfl (hb hby hd) rfl (XT.ii_ge_t q) ho hp k) r
theorem r_icmp_ge_f (C : Ctx l R Z own nm code maxL ret fl n0 kz K) {o : Int} {x y : Int32} (hd : decode code pc = .ok (.if_icmp .ge o, 3)) (hp : pc + 3 = pc') (q : x < y) (r : Run l R n0 Q K h cells slots pc' Ls (st)) : Run l R n0 Q K h cells slots pc Ls (.int y :: .int x :: st) :=
  Run.pure C (Or.inr trivial) (fun p e s m args below meth c hx hby hown hZ T locs X eT target k => by subst hp; exact XS.icmpNo X.here hx rfl (hb hby hd) rfl (XT.ii_ge_f q) k) r
theorem r_icmp_ge (C : Ctx l R Z own nm code maxL ret fl n0 kz K) {o : Int} {pt : Nat} {x y : Int32} (hd : decode code pc = .ok (.if_icmp .ge o, 3)) (ho : 0 ≤ (pc : Int) + o) (hp : ((pc : Int) + o).toNat = pt) (hp' : pc + 3 = pc') (rt : ¬ x < y → Run l R n0 Q K h cells slots pt Ls st) (rf : x < y → Run l R n0 Q K h cells slots pc' Ls st) : Run l R n0 Q K h cells slots pc Ls (.int y :: .int x :: st) := by
  by_cases q : x < y
  · exact r_icmp_ge_f C hd hp' q (rf q)
  · exact r_icmp_ge_t C hd ho hp q (rt q)
theorem r_if_ge_t (C : Ctx l R Z own nm code maxL ret fl n0 kz K) {o : Int} {x : Int32} (hd : decode code pc = .ok (.ifCond .ge o, 3)) (ho : 0 ≤ (pc : Int) + o) (hp : ((pc : Int) + o).toNat = pc') (q : ¬ x < 0) (r : Run l R n0 Q K h cells slots pc' Ls (st)) : Run l R n0 Q K h cells slots pc Ls (.int x :: st) :=
  Run.pure C (Or.inr trivial) (fun p e s m args below meth c hx hby hown hZ T locs X eT target k => by exact XS.ifYes X.here hx rfl (pc0 := pc) rfl (hb hby hd) rfl (XT.i0_ge_t q) ho hp k) r
theorem r_if_ge_f (C : Ctx l R Z own nm code maxL ret fl n0 kz K) {o : Int} {x : Int32} (hd : decode code pc = .ok (.ifCond .ge o, 3)) (hp : pc + 3 = pc') (q : x < 0) (r : Run l R n0 Q K h cells slots pc' Ls (st)) : Run l R n0 Q K h cells slots pc Ls (.int x :: st) :=
  Run.pure C (Or.inr trivial) (fun p e s m args below meth c hx hby hown hZ T locs X eT target k => by subst hp; exact XS.ifNo X.here hx rfl (hb hby hd) rfl (XT.i0_ge_f q) k) r
theorem r_if_ge (C : Ctx l R Z own nm code maxL ret fl n0 kz K) {o : Int} {pt : Nat} {x : Int32} (hd : decode code pc = .ok (.ifCond .ge o, 3)) (ho : 0 ≤ (pc : Int) + o) (hp : ((pc : Int) + o).toNat = pt) (hp' : pc + 3 = pc') (rt : ¬ x < 0 → Run l R n0 Q K h cells slots pt Ls st) (rf : x < 0 → Run l R n0 Q K h cells slots pc' Ls st) : Run l R n0 Q K h cells slots pc Ls (.int x :: st) := by
  by_cases q : x < 0
  · exact r_if_ge_f C hd hp' q (rf q)
  · exact r_if_ge_t C hd ho hp q (rt q)
theorem r_lcmp_ge (C : Ctx l R Z own nm code maxL ret fl n0 kz K) {o : Int} {pt : Nat} {x y : Int64} (hd : decode code pc = .ok (.lcmp, 1)) (hd2 : decode code (pc + 1) = .ok (.ifCond .ge o, 3)) (ho : 0 ≤ ((pc + 1 : Nat) : Int) + o) (hp : (((pc + 1 : Nat) : Int) + o).toNat = pt) (hp' : pc + 4 = pc') (rt : ¬ x < y → Run l R n0 Q K h cells slots pt Ls st) (rf : x < y → Run l R n0 Q K h cells slots pc' Ls st) : Run l R n0 Q K h cells slots pc Ls (.long y :: .long x :: st) := by
  by_cases q : x < y
  · subst hp'; exact Run.pure C (Or.inr trivial) (fun p e s m args below meth c hx hby hown hZ T locs X eT target k => XT.lcmp X.here hx rfl (hb hby hd) rfl (XS.ifNo X.here hx rfl (hb hby hd2) rfl (XT.ll_ge_f q) k)) (rf q)
  · exact Run.pure C (Or.inr trivial) (fun p e s m args below meth c hx hby hown hZ T locs X eT target k => XT.lcmp X.here hx rfl (hb hby hd) rfl (XS.ifYes X.here hx rfl (pc0 := pc + 1) rfl (hb hby hd2) rfl (XT.ll_ge_t q) ho hp k)) (rt q)
theorem r_icmp_gt_t (C : Ctx l R Z own nm code maxL ret fl n0 kz K) {o : Int} {x y : Int32} (hd : decode code pc = .ok (.if_icmp .gt o, 3)) (ho : 0 ≤ (pc : Int) + o) (hp : ((pc : Int) + o).toNat = pc') (q : y < x) (r : Run l R n0 Q K h cells slots pc' Ls (st)) : Run l R n0 Q K h cells slots pc Ls (.int y :: .int x :: st) :=
  Run.pure C (Or.inr trivial) (fun p e s m args below meth c hx hby hown hZ T locs X eT target k => by exact XS.icmpYes X.here hx rfl (pc0 := pc) rfl (hb hby hd) rfl (XT.ii_gt_t q) ho hp k) r
theorem r_icmp_gt_f (C : Ctx l R Z own nm code maxL ret fl n0 kz K) {o : Int} {x y : Int32} (hd : decode code pc = .ok (.if_icmp .gt o, 3)) (hp : pc + 3 = pc') (q : ¬ y < x) (r : Run l R n0 Q K h cells slots pc' Ls (st)) : Run l R n0 Q K h cells slots pc Ls (.int y :: .int x :: st) :=
  Run.pure C (Or.inr trivial) (fun p e s m args below meth c hx hby hown hZ T locs X eT target k => by subst hp; exact XS.icmpNo X.here hx rfl (hb hby hd) rfl (XT.ii_gt_f q) k) r
theorem r_icmp_gt (C : Ctx l R Z own nm code maxL ret fl n0 kz K) {o : Int} {pt : Nat} {x y : Int32} (hd : decode code pc = .ok (.if_icmp .gt o, 3)) (ho : 0 ≤ (pc : Int) + o) (hp : ((pc : Int) + o).toNat = pt) (hp' : pc + 3 = pc') (rt : y < x → Run l R n0 Q K h cells slots pt Ls st) (rf : ¬ y < x → Run l R n0 Q K h cells slots pc' Ls st) : Run l R n0 Q K h cells slots pc Ls (.int y :: .int x :: st) := by
  by_cases q : y < x
  · exact r_icmp_gt_t C hd ho hp q (rt q)
  · exact r_icmp_gt_f C hd hp' q (rf q)
theorem r_if_gt_t (C : Ctx l R Z own nm code maxL ret fl n0 kz K) {o : Int} {x : Int32} (hd : decode code pc = .ok (.ifCond .gt o, 3)) (ho : 0 ≤ (pc : Int) + o) (hp : ((pc : Int) + o).toNat = pc') (q : 0 < x) (r : Run l R n0 Q K h cells slots pc' Ls (st)) : Run l R n0 Q K h cells slots pc Ls (.int x :: st) :=
  Run.pure C (Or.inr trivial) (fun p e s m args below meth c hx hby hown hZ T locs X eT target k => by exact XS.ifYes X.here hx rfl (pc0 := pc) rfl (hb hby hd) rfl (XT.i0_gt_t q) ho hp k) r
theorem r_if_gt_f (C : Ctx l R Z own nm code maxL ret fl n0 kz K) {o : Int} {x : Int32} (hd : decode code pc = .ok (.ifCond .gt o, 3)) (hp : pc + 3 = pc') (q : ¬ 0 < x) (r : Run l R n0 Q K h cells slots pc' Ls (st)) : Run l R n0 Q K h cells slots pc Ls (.int x :: st) :=
  Run.pure C (Or.inr trivial) (fun p e s m args below meth c hx hby hown hZ T locs X eT target k => by subst hp; exact XS.ifNo X.here hx rfl (hb hby hd) rfl (XT.i0_gt_f q) k) r
theorem r_if_gt (C : Ctx l R Z own nm code maxL ret fl n0 kz K) {o : Int} {pt : Nat} {x : Int32} (hd : decode code pc = .ok (.ifCond .gt o, 3)) (ho : 0 ≤ (pc : Int) + o) (hp : ((pc : Int) + o).toNat = pt) (hp' : pc + 3 = pc') (rt : 0 < x → Run l R n0 Q K h cells slots pt Ls st) (rf : ¬ 0 < x → Run l R n0 Q K h cells slots pc' Ls st) : Run l R n0 Q K h cells slots pc Ls (.int x :: st) := by
  by_cases q : 0 < x
  · exact r_if_gt_t C hd ho hp q (rt q)
  · exact r_if_gt_f C hd hp' q (rf q)
theorem r_lcmp_gt (C : Ctx l R Z own nm code maxL ret fl n0 kz K) {o : Int} {pt : Nat} {x y : Int64} (hd : decode code pc = .ok (.lcmp, 1)) (hd2 : decode code (pc + 1) = .ok (.ifCond .gt o, 3)) (ho : 0 ≤ ((pc + 1 : Nat) : Int) + o) (hp : (((pc + 1 : Nat) : Int) + o).toNat = pt) (hp' : pc + 4 = pc') (rt : y < x → Run l R n0 Q K h cells slots pt Ls st) (rf : ¬ y < x → Run l R n0 Q K h cells slots pc' Ls st) : Run l R n0 Q K h cells slots pc Ls (.long y :: .long x :: st) := by
  by_cases q : y < x
  · exact Run.pure C (Or.inr trivial) (fun p e s m args below meth c hx hby hown hZ T locs X eT target k => XT.lcmp X.here hx rfl (hb hby hd) rfl (XS.ifYes X.here hx rfl (pc0 := pc + 1) rfl (hb hby hd2) rfl (XT.ll_gt_t q) ho hp k)) (rt q)
  · subst hp'; exact Run.pure C (Or.inr trivial) (fun p e s m args below meth c hx hby hown hZ T locs X eT target k => XT.lcmp X.here hx rfl (hb hby hd) rfl (XS.ifNo X.here hx rfl (hb hby hd2) rfl (XT.ll_gt_f q) k)) (rf q)
theorem r_icmp_le_t (C : Ctx l R Z own nm code maxL ret fl n0 kz K) {o : Int} {x y : Int32} (hd : decode code pc = .ok (.if_icmp .le o, 3)) (ho : 0 ≤ (pc : Int) + o) (hp : ((pc : Int) + o).toNat = pc') (q : ¬ y < x) (r : Run l R n0 Q K h cells slots pc' Ls (st)) : Run l R n0 Q K h cells slots pc Ls (.int y :: .int x :: st) :=
  Run.pure C (Or.inr trivial) (fun p e s m args below meth c hx hby hown hZ T locs X eT target k => by exact XS.icmpYes X.here hx rfl (pc0 := pc) rfl (hb hby hd) rfl (XT.ii_le_t q) ho hp k) r
theorem r_icmp_le_f (C : Ctx l R Z own nm code maxL ret fl n0 kz K) {o : Int} {x y : Int32} (hd : decode code pc = .ok (.if_icmp .le o, 3)) (hp : pc + 3 = pc') (q : y < x) (r : Run l R n0 Q K h cells slots pc' Ls (st)) : Run l R n0 Q K h cells slots pc Ls (.int y :: .int x :: st) :=
  Run.pure C (Or.inr trivial) (fun p e s m args below meth c hx hby hown hZ T locs X eT target k => by subst hp; exact XS.icmpNo X.here hx rfl (hb hby hd) rfl (XT.ii_le_f q) k) r
theorem r_icmp_le (C : Ctx l R Z own nm code maxL ret fl n0 kz K) {o : Int} {pt : Nat} {x y : Int32} (hd : decode code pc = .ok (.if_icmp .le o, 3)) (ho : 0 ≤ (pc : Int) + o) (hp : ((pc : Int) + o).toNat = pt) (hp' : pc + 3 = pc') (rt : ¬ y < x → Run l R n0 Q K h cells slots pt Ls st) (rf : y < x → Run l R n0 Q K h cells slots pc' Ls st) : Run l R n0 Q K h cells slots pc Ls (.int y :: .int x :: st) := by
  by_cases q : y < x
  · exact r_icmp_le_f C hd hp' q (rf q)
  · exact r_icmp_le_t C hd ho hp q (rt q)
theorem r_if_le_t (C : Ctx l R Z own nm code maxL ret fl n0 kz K) {o : Int} {x : Int32} (hd : decode code pc = .ok (.ifCond .le o, 3)) (ho : 0 ≤ (pc : Int) + o) (hp : ((pc : Int) + o).toNat = pc') (q : ¬ 0 < x) (r : Run l R n0 Q K h cells slots pc' Ls (st)) : Run l R n0 Q K h cells slots pc Ls (.int x :: st) :=
  Run.pure C (Or.inr trivial) (fun p e s m args below meth c hx hby hown hZ T locs X eT target k => by exact XS.ifYes X.here hx rfl (pc0 := pc) rfl (hb hby hd) rfl (XT.i0_le_t q) ho hp k) r
theorem r_if_le_f (C : Ctx l R Z own nm code maxL ret fl n0 kz K) {o : Int} {x : Int32} (hd : decode code pc = .ok (.ifCond .le o, 3)) (hp : pc + 3 = pc') (q : 0 < x) (r : Run l R n0 Q K h cells slots pc' Ls (st)) : Run l R n0 Q K h cells slots pc Ls (.int x :: st) :=
  Run.pure C (Or.inr trivial) (fun p e s m args below meth c hx hby hown hZ T locs X eT target k => by subst hp; exact XS.ifNo X.here hx rfl (hb hby hd) rfl (XT.i0_le_f q) k) r
theorem r_if_le (C : Ctx l R Z own nm code maxL ret fl n0 kz K) {o : Int} {pt : Nat} {x : Int32} (hd : decode code pc = .ok (.ifCond .le o, 3)) (ho : 0 ≤ (pc : Int) + o) (hp : ((pc : Int) + o).toNat = pt) (hp' : pc + 3 = pc') (rt : ¬ 0 < x → Run l R n0 Q K h cells slots pt Ls st) (rf : 0 < x → Run l R n0 Q K h cells slots pc' Ls st) : Run l R n0 Q K h cells slots pc Ls (.int x :: st) := by
  by_cases q : 0 < x
  · exact r_if_le_f C hd hp' q (rf q)
  · exact r_if_le_t C hd ho hp q (rt q)
theorem r_lcmp_le (C : Ctx l R Z own nm code maxL ret fl n0 kz K) {o : Int} {pt : Nat} {x y : Int64} (hd : decode code pc = .ok (.lcmp, 1)) (hd2 : decode code (pc + 1) = .ok (.ifCond .le o, 3)) (ho : 0 ≤ ((pc + 1 : Nat) : Int) + o) (hp : (((pc + 1 : Nat) : Int) + o).toNat = pt) (hp' : pc + 4 = pc') (rt : ¬ y < x → Run l R n0 Q K h cells slots pt Ls st) (rf : y < x → Run l R n0 Q K h cells slots pc' Ls st) : Run l R n0 Q K h cells slots pc Ls (.long y :: .long x :: st) := by
  by_cases q : y < x
  · subst hp'; exact Run.pure C (Or.inr trivial) (fun p e s m args below meth c hx hby hown hZ T locs X eT target k => XT.lcmp X.here hx rfl (hb hby hd) rfl (XS.ifNo X.here hx rfl (hb hby hd2) rfl (XT.ll_le_f q) k)) (rf q)
  · exact Run.pure C (Or.inr trivial) (fun p e s m args below meth c hx hby hown hZ T locs X eT target k => XT.lcmp X.here hx rfl (hb hby hd) rfl (XS.ifYes X.here hx rfl (pc0 := pc + 1) rfl (hb hby hd2) rfl (XT.ll_le_t q) ho hp k)) (rt q)
theorem r_ifnull_t (C : Ctx l R Z own nm code maxL ret fl n0 kz K) {o : Int} {v : Value} (hd : decode code pc = .ok (.ifnull o, 3)) (ho : 0 ≤ (pc : Int) + o) (hp : ((pc : Int) + o).toNat = pc') (hv : v.isRef = true) (q : v = .null) (r : Run l R n0 Q K h cells slots pc' Ls (st)) : Run l R n0 Q K h cells slots pc Ls (v :: st) :=
  Run.pure C (Or.inr trivial) (fun p e s m args below meth c hx hby hown hZ T locs X eT target k => by exact XT.nullYes X.here hx rfl (pc0 := pc) rfl (hb hby hd) rfl q ho hp k) r
theorem r_ifnull_f (C : Ctx l R Z own nm code maxL ret fl n0 kz K) {o : Int} {v : Value} (hd : decode code pc = .ok (.ifnull o, 3)) (hp : pc + 3 = pc') (hv : v.isRef = true) (q : ¬ v = .null) (r : Run l R n0 Q K h cells slots pc' Ls (st)) : Run l R n0 Q K h cells slots pc Ls (v :: st) :=
  Run.pure C (Or.inr trivial) (fun p e s m args below meth c hx hby hown hZ T locs X eT target k => by subst hp; exact XT.nullNo X.here hx rfl (hb hby hd) rfl hv q k) r
theorem r_ifnonnull_t (C : Ctx l R Z own nm code maxL ret fl n0 kz K) {o : Int} {v : Value} (hd : decode code pc = .ok (.ifnonnull o, 3)) (ho : 0 ≤ (pc : Int) + o) (hp : ((pc : Int) + o).toNat = pc') (hv : v.isRef = true) (q : ¬ v = .null) (r : Run l R n0 Q K h cells slots pc' Ls (st)) : Run l R n0 Q K h cells slots pc Ls (v :: st) :=
  Run.pure C (Or.inr trivial) (fun p e s m args below meth c hx hby hown hZ T locs X eT target k => by exact XT.nonnullYes X.here hx rfl (pc0 := pc) rfl (hb hby hd) rfl hv q ho hp k) r
theorem r_ifnonnull_f (C : Ctx l R Z own nm code maxL ret fl n0 kz K) {o : Int} {v : Value} (hd : decode code pc = .ok (.ifnonnull o, 3)) (hp : pc + 3 = pc') (hv : v.isRef = true) (q : v = .null) (r : Run l R n0 Q K h cells slots pc' Ls (st)) : Run l R n0 Q K h cells slots pc Ls (v :: st) :=
  Run.pure C (Or.inr trivial) (fun p e s m args below meth c hx hby hown hZ T locs X eT target k => by subst hp; exact XT.nonnullNo X.here hx rfl (hb hby hd) rfl q k) r
theorem r_acmp_eq_t (C : Ctx l R Z own nm code maxL ret fl n0 kz K) {o : Int} {x y : Value} (hd : decode code pc = .ok (.if_acmp .eq o, 3)) (ho : 0 ≤ (pc : Int) + o) (hp : ((pc : Int) + o).toNat = pc') (hvx : x.isRef = true) (hvy : y.isRef = true) (q : x = y) (r : Run l R n0 Q K h cells slots pc' Ls (st)) : Run l R n0 Q K h cells slots pc Ls (y :: x :: st) :=
  Run.pure C (Or.inr trivial) (fun p e s m args below meth c hx hby hown hZ T locs X eT target k => by exact XT.acmpYes X.here hx rfl (pc0 := pc) rfl (hb hby hd) rfl hvx hvy (XT.aa_eq_t q) ho hp k) r
theorem r_acmp_eq_f (C : Ctx l R Z own nm code maxL ret fl n0 kz K) {o : Int} {x y : Value} (hd : decode code pc = .ok (.if_acmp .eq o, 3)) (hp : pc + 3 = pc') (hvx : x.isRef = true) (hvy : y.isRef = true) (q : ¬ x = y) (r : Run l R n0 Q K h cells slots pc' Ls (st)) : Run l R n0 Q K h cells slots pc Ls (y :: x :: st) :=
  Run.pure C (Or.inr trivial) (fun p e s m args below meth c hx hby hown hZ T locs X eT target k => by subst hp; exact XT.acmpNo X.here hx rfl (hb hby hd) rfl hvx hvy (XT.aa_eq_f q) k) r
theorem r_acmp_ne_t (C : Ctx l R Z own nm code maxL ret fl n0 kz K) {o : Int} {x y : Value} (hd : decode code pc = .ok (.if_acmp .ne o, 3)) (ho : 0 ≤ (pc : Int) + o) (hp : ((pc : Int) + o).toNat = pc') (hvx : x.isRef = true) (hvy : y.isRef = true) (q : ¬ x = y) (r : Run l R n0 Q K h cells slots pc' Ls (st)) : Run l R n0 Q K h cells slots pc Ls (y :: x :: st) :=
  Run.pure C (Or.inr trivial) (fun p e s m args below meth c hx hby hown hZ T locs X eT target k => by exact XT.acmpYes X.here hx rfl (pc0 := pc) rfl (hb hby hd) rfl hvx hvy (XT.aa_ne_t q) ho hp k) r
theorem r_acmp_ne_f (C : Ctx l R Z own nm code maxL ret fl n0 kz K) {o : Int} {x y : Value} (hd : decode code pc = .ok (.if_acmp .ne o, 3)) (hp : pc + 3 = pc') (hvx : x.isRef = true) (hvy : y.isRef = true) (q : x = y) (r : Run l R n0 Q K h cells slots pc' Ls (st)) : Run l R n0 Q K h cells slots pc Ls (y :: x :: st) :=
  Run.pure C (Or.inr trivial) (fun p e s m args below meth c hx hby hown hZ T locs X eT target k => by subst hp; exact XT.acmpNo X.here hx rfl (hb hby hd) rfl hvx hvy (XT.aa_ne_f q) k) r
theorem r_ldcI (C : Ctx l R Z own nm code maxL ret fl n0 kz K) {idx : Nat} {v : Int32} (hd : decode code pc = .ok (.ldc idx, 2)) (hp : pc + 2 = pc') (w : (Jvm.Cond.constant own idx v).before a0 Z = true) (r : Run l R n0 Q K h cells slots pc' Ls (.int v :: st)) : Run l R n0 Q K h cells slots pc Ls (st) :=
  Run.pure C (Or.inr trivial) (fun p e s m args below meth c hx hby hown hZ T locs X eT target k => by subst hp; exact X.ldcI hx hown (mvT hZ w) rfl (hb hby hd) k) r
theorem r_ldcWI (C : Ctx l R Z own nm code maxL ret fl n0 kz K) {idx : Nat} {v : Int32} (hd : decode code pc = .ok (.ldc_w idx, 3)) (hp : pc + 3 = pc') (w : (Jvm.Cond.constant own idx v).before a0 Z = true) (r : Run l R n0 Q K h cells slots pc' Ls (.int v :: st)) : Run l R n0 Q K h cells slots pc Ls (st) :=
  Run.pure C (Or.inr trivial) (fun p e s m args below meth c hx hby hown hZ T locs X eT target k => by subst hp; exact X.ldcWI hx hown (mvT hZ w) rfl (hb hby hd) k) r
theorem r_ldc2J (C : Ctx l R Z own nm code maxL ret fl n0 kz K) {idx : Nat} {v : Int64} (hd : decode code pc = .ok (.ldc2_w idx, 3)) (hp : pc + 3 = pc') (w : (Jvm.Cond.constantLong own idx v).before a0 Z = true) (r : Run l R n0 Q K h cells slots pc' Ls (.long v :: st)) : Run l R n0 Q K h cells slots pc Ls (st) :=
  Run.pure C (Or.inr trivial) (fun p e s m args below meth c hx hby hown hZ T locs X eT target k => by subst hp; exact X.ldc2J hx hown (mvT hZ w) rfl (hb hby hd) k) r
/-- a place inside an array -/
def Inb (j z : Int32) : Prop := ¬ j < 0 ∧ j < z
theorem r_arraylength (C : Ctx l R Z own nm code maxL ret fl n0 kz K) {a : Addr} {k : ClassId} {ty : FieldType} {z : Int32} {vs : List Value} {dv : Value} (hd : decode code pc = .ok (.arraylength, 1)) (hp : pc + 1 = pc') (A : Arv Z h a k ty z vs dv) (r : Run l R n0 Q K h cells slots pc' Ls (.int z :: st)) : Run l R n0 Q K h cells slots pc Ls (.ref a :: st) :=
  Run.pure C (Or.inr trivial) (fun p e s m args below meth c hx hby hown hZ T locs X eT target kk => by
    subst hp
    obtain ⟨cl, Ar, q1, S, N, H, G⟩ := A
    refine X.arraylength hx (by rw [eT]; exact Ar.1) (State.isArrayOf_alike hZ.alike Ar.2.1) (g := mkF m pc Ls (.ref a :: st)) rfl rfl (hb hby hd) _ ?_
    rw [len_of S N]; exact kk) r
theorem r_iaload (C : Ctx l R Z own nm code maxL ret fl n0 kz K) {a : Addr} {k : ClassId} {z j : Int32} {vs : List Value} {dv v : Value} (hd : decode code pc = .ok (.iaload, 1)) (hp : pc + 1 = pc') (A : Arv Z h a k .int z vs dv) (hj : Inb j z) (hv : vs.getD j.toNatClampNeg dv = v) (r : Run l R n0 Q K h cells slots pc' Ls (v :: st)) : Run l R n0 Q K h cells slots pc Ls (.int j :: .ref a :: st) :=
  Run.pure C (Or.inr trivial) (fun p e s m args below meth c hx hby hown hZ T locs X eT target kk => by
    subst hp
    obtain ⟨cl, Ar, q1, S, N, H, G⟩ := A
    have hin := inb_of S hj
    exact X.iaload hx (by rw [eT]; exact Ar.1) (State.isArrayOf_alike hZ.alike Ar.2.1) Ar.2.2 hin (H.at hin hv) (g := mkF m pc Ls (.int j :: .ref a :: st)) rfl rfl (hb hby hd) _ kk) r
theorem r_laload (C : Ctx l R Z own nm code maxL ret fl n0 kz K) {a : Addr} {k : ClassId} {z j : Int32} {vs : List Value} {dv v : Value} (hd : decode code pc = .ok (.laload, 1)) (hp : pc + 1 = pc') (A : Arv Z h a k .long z vs dv) (hj : Inb j z) (hv : vs.getD j.toNatClampNeg dv = v) (r : Run l R n0 Q K h cells slots pc' Ls (v :: st)) : Run l R n0 Q K h cells slots pc Ls (.int j :: .ref a :: st) :=
  Run.pure C (Or.inr trivial) (fun p e s m args below meth c hx hby hown hZ T locs X eT target kk => by
    subst hp
    obtain ⟨cl, Ar, q1, S, N, H, G⟩ := A
    have hin := inb_of S hj
    exact X.laload hx (by rw [eT]; exact Ar.1) (State.isArrayOf_alike hZ.alike Ar.2.1) Ar.2.2 hin (H.at hin hv) (g := mkF m pc Ls (.int j :: .ref a :: st)) rfl rfl (hb hby hd) _ kk) r
theorem r_caload (C : Ctx l R Z own nm code maxL ret fl n0 kz K) {a : Addr} {k : ClassId} {z j : Int32} {vs : List Value} {dv v : Value} (hd : decode code pc = .ok (.caload, 1)) (hp : pc + 1 = pc') (A : Arv Z h a k .char z vs dv) (hj : Inb j z) (hv : vs.getD j.toNatClampNeg dv = v) (r : Run l R n0 Q K h cells slots pc' Ls (v :: st)) : Run l R n0 Q K h cells slots pc Ls (.int j :: .ref a :: st) :=
  Run.pure C (Or.inr trivial) (fun p e s m args below meth c hx hby hown hZ T locs X eT target kk => by
    subst hp
    obtain ⟨cl, Ar, q1, S, N, H, G⟩ := A
    have hin := inb_of S hj
    exact X.caload hx (by rw [eT]; exact Ar.1) (State.isArrayOf_alike hZ.alike Ar.2.1) Ar.2.2 hin (H.at hin hv) (g := mkF m pc Ls (.int j :: .ref a :: st)) rfl rfl (hb hby hd) _ kk) r
theorem r_saload (C : Ctx l R Z own nm code maxL ret fl n0 kz K) {a : Addr} {k : ClassId} {z j : Int32} {vs : List Value} {dv v : Value} (hd : decode code pc = .ok (.saload, 1)) (hp : pc + 1 = pc') (A : Arv Z h a k .short z vs dv) (hj : Inb j z) (hv : vs.getD j.toNatClampNeg dv = v) (r : Run l R n0 Q K h cells slots pc' Ls (v :: st)) : Run l R n0 Q K h cells slots pc Ls (.int j :: .ref a :: st) :=
  Run.pure C (Or.inr trivial) (fun p e s m args below meth c hx hby hown hZ T locs X eT target kk => by
    subst hp
    obtain ⟨cl, Ar, q1, S, N, H, G⟩ := A
    have hin := inb_of S hj
    exact X.saload hx (by rw [eT]; exact Ar.1) (State.isArrayOf_alike hZ.alike Ar.2.1) Ar.2.2 hin (H.at hin hv) (g := mkF m pc Ls (.int j :: .ref a :: st)) rfl rfl (hb hby hd) _ kk) r
theorem r_baload (C : Ctx l R Z own nm code maxL ret fl n0 kz K) {a : Addr} {k : ClassId} {z j : Int32} {vs : List Value} {dv v : Value} (hd : decode code pc = .ok (.baload, 1)) (hp : pc + 1 = pc') (A : Arv Z h a k .byte z vs dv) (hj : Inb j z) (hv : vs.getD j.toNatClampNeg dv = v) (r : Run l R n0 Q K h cells slots pc' Ls (v :: st)) : Run l R n0 Q K h cells slots pc Ls (.int j :: .ref a :: st) :=
  Run.pure C (Or.inr trivial) (fun p e s m args below meth c hx hby hown hZ T locs X eT target kk => by
    subst hp
    obtain ⟨cl, Ar, q1, S, N, H, G⟩ := A
    have hin := inb_of S hj
    exact X.baloadBytes hx (by rw [eT]; exact Ar.1) (State.isArrayOf_alike hZ.alike Ar.2.1) Ar.2.2 hin (H.at hin hv) (g := mkF m pc Ls (.int j :: .ref a :: st)) rfl rfl (hb hby hd) _ kk) r
theorem r_baloadZ (C : Ctx l R Z own nm code maxL ret fl n0 kz K) {a : Addr} {k : ClassId} {z j : Int32} {vs : List Value} {dv v : Value} (hd : decode code pc = .ok (.baload, 1)) (hp : pc + 1 = pc') (A : Arv Z h a k .boolean z vs dv) (hj : Inb j z) (hv : vs.getD j.toNatClampNeg dv = v) (r : Run l R n0 Q K h cells slots pc' Ls (v :: st)) : Run l R n0 Q K h cells slots pc Ls (.int j :: .ref a :: st) :=
  Run.pure C (Or.inr trivial) (fun p e s m args below meth c hx hby hown hZ T locs X eT target kk => by
    subst hp
    obtain ⟨cl, Ar, q1, S, N, H, G⟩ := A
    have hin := inb_of S hj
    exact X.baloadBooleans hx (by rw [eT]; exact Ar.1) (State.isArrayOf_alike hZ.alike Ar.2.1) Ar.2.2 hin (H.at hin hv) (g := mkF m pc Ls (.int j :: .ref a :: st)) rfl rfl (hb hby hd) _ kk) r
theorem r_aaload (C : Ctx l R Z own nm code maxL ret fl n0 kz K) {a : Addr} {k : ClassId} {ty : FieldType} {z j : Int32} {vs : List Value} {dv v : Value} (hd : decode code pc = .ok (.aaload, 1)) (hp : pc + 1 = pc') (A : Arv Z h a k ty z vs dv) (hty : ty.isReference = true) (hj : Inb j z) (hv : vs.getD j.toNatClampNeg dv = v) (r : Run l R n0 Q K h cells slots pc' Ls (v :: st)) : Run l R n0 Q K h cells slots pc Ls (.int j :: .ref a :: st) :=
  Run.pure C (Or.inr trivial) (fun p e s m args below meth c hx hby hown hZ T locs X eT target kk => by
    subst hp
    obtain ⟨cl, Ar, q1, S, N, H, G⟩ := A
    have hin := inb_of S hj
    exact X.aaload hx (by rw [eT]; exact Ar.1) (State.isArrayOf_alike hZ.alike Ar.2.1) hty Ar.2.2 hin (H.at hin hv) (g := mkF m pc Ls (.int j :: .ref a :: st)) rfl rfl (hb hby hd) _ kk) r
theorem Run.move {cells' slots' : Nat} (C : Ctx l R Z own nm code maxL ret fl n0 kz K)
    (k : ∀ (p : Program) (e : Env) (s : State) (m : MethodId) (args : Array Value) (below : List Frame) (meth : Method) (c : Code), p.tables.exec = Jvm.exec → c.code = code → c.maxLocals = maxL → meth.name = nm → s.vm.findClass own = some m.cls → Z.Warmed39 s.vm → ∀ (T : State) (locs : List Loc), Stand p l e R s m args below meth c T locs cells slots → T.heap = h →
      ∃ (T' : State) (h' : Heap), Stand p l e R s m args below meth c T' locs cells' slots' ∧ T'.heap = h' ∧ Run l R n0 Q K h' cells' slots' pc' Ls' rest ∧ ∀ target, Steps p.tables e below (T'.setTop (mkF m pc' Ls' rest)) target → Steps p.tables e below (T.setTop (mkF m pc Ls st)) target) :
    Run l R n0 Q K h cells slots pc Ls st := by
  obtain ⟨Pl, En, p, e, s, m, args, below, meth, c⟩ := K
  intro T locs X eT N
  obtain ⟨hx, hZ, hown, hby, hml, -, hnm, -⟩ := C
  obtain ⟨T', h', X', eT', r, kk⟩ := k p e s m args below meth c hx hby hml hnm hown hZ T locs X eT
  obtain ⟨s2, o, k1, k2⟩ := r T' locs X' eT' N
  exact ⟨s2, o, kk _ k1, k2⟩
theorem Run.write (C : Ctx l R Z own nm code maxL ret true n0 kz K) {a : Addr} {sl : Nat} (ge : n0 ≤ a)
    (k : ∀ (p : Program) (e : Env) (s : State) (m : MethodId) (args : Array Value) (below : List Frame) (meth : Method) (c : Code), p.tables.exec = Jvm.exec → c.code = code → c.maxLocals = maxL → meth.name = nm → s.vm.findClass own = some m.cls → Z.Warmed39 s.vm → ∀ (T : State) (locs : List Loc), Stand p l e R s m args below meth c T locs cells slots → T.heap = h →
      ∃ (T' : State) (h' : Heap), Stand p l e R s m args below meth c T' (locs ++ [⟨a, sl⟩]) cells slots ∧ T'.heap = h' ∧ Run l R n0 Q K h' cells slots pc' Ls' rest ∧ ∀ target, Steps p.tables e below (T'.setTop (mkF m pc' Ls' rest)) target → Steps p.tables e below (T.setTop (mkF m pc Ls st)) target) :
    Run l R n0 Q K h cells slots pc Ls st := by
  obtain ⟨Pl, En, p, e, s, m, args, below, meth, c⟩ := K
  intro T locs X eT N
  obtain ⟨hx, hZ, hown, hby, hml, -, hnm, -, hcl, hfr, -⟩ := C
  obtain ⟨T', h', X', eT', r, kk⟩ := k p e s m args below meth c hx hby hml hnm hown hZ T locs X eT
  obtain ⟨s2, o, k1, k2⟩ := r T' _ X' eT' (hcl rfl _ (Fr.app (hfr _ N) (fun y hy => by cases List.mem_singleton.mp hy; exact ge)))
  exact ⟨s2, o, kk _ k1, k2⟩
theorem r_getF (C : Ctx l R Z own nm code maxL ret fl n0 kz K) {idx : Nat} {R0 O n d : String} {a : Addr} {v : Value} (hd : decode code pc = .ok (.getfield idx, 3)) (hp : pc + 3 = pc') (w : (Jvm.Cond.fieldLink own idx R0 n d).before a0 Z = true) (via : Via Z R0 O n d) (F : Fld Z h a O n d v) (r : Run l R n0 Q K h cells slots pc' Ls (v :: st)) : Run l R n0 Q K h cells slots pc Ls (.ref a :: st) := by
  subst hp
  exact Run.move (cells' := cells) (slots' := slots) (pc' := pc + 3) (Ls' := Ls) (rest := v :: st) C (fun p e s m args below meth c hx hby hml hnm hown hZ T locs X eT => by
    obtain ⟨T', X', e', s'⟩ := getF X hx hZ hown (host := "") (Or.inl w) via eT F (g := mkF m pc Ls (.ref a :: st)) rfl rfl (hb hby hd)
    exact ⟨T', h, X', e', r, s'⟩)
theorem r_getFN (C : Ctx l R Z own nm code maxL ret fl n0 kz K) {idx : Nat} {R0 O n d host : String} {a : Addr} {v : Value} (hd : decode code pc = .ok (.getfield idx, 3)) (hp : pc + 3 = pc') (w : (Jvm.Cond.fieldLinkNest own idx R0 n d host).before a0 Z = true) (via : Via Z R0 O n d) (F : Fld Z h a O n d v) (r : Run l R n0 Q K h cells slots pc' Ls (v :: st)) : Run l R n0 Q K h cells slots pc Ls (.ref a :: st) := by
  subst hp
  exact Run.move (cells' := cells) (slots' := slots) (pc' := pc + 3) (Ls' := Ls) (rest := v :: st) C (fun p e s m args below meth c hx hby hml hnm hown hZ T locs X eT => by
    obtain ⟨T', X', e', s'⟩ := getF X hx hZ hown (Or.inr w) via eT F (g := mkF m pc Ls (.ref a :: st)) rfl rfl (hb hby hd)
    exact ⟨T', h, X', e', r, s'⟩)
theorem r_getS (C : Ctx l R Z own nm code maxL ret fl n0 kz K) {idx : Nat} {R0 O n d : String} {v : Value} (hd : decode code pc = .ok (.getstatic idx, 3)) (hp : pc + 3 = pc') (w : (Jvm.Cond.fieldLink own idx R0 n d).before a0 Z = true) (via : Via Z R0 O n d) (F : Sta Z h O n d v) (r : Run l R n0 Q K h cells slots pc' Ls (v :: st)) : Run l R n0 Q K h cells slots pc Ls st := by
  subst hp
  exact Run.move (cells' := cells) (slots' := slots) (pc' := pc + 3) (Ls' := Ls) (rest := v :: st) C (fun p e s m args below meth c hx hby hml hnm hown hZ T locs X eT => by
    obtain ⟨T', X', e', s'⟩ := getS2 X hx hZ hown (host := "") (Or.inl w) via eT F (g := mkF m pc Ls st) rfl (hb hby hd)
    exact ⟨T', h, X', e', r, s'⟩)
theorem r_putF (C : Ctx l R Z own nm code maxL ret true n0 kz K) {idx kk : Nat} {R0 O n d Cn : String} {a : Addr} {v old : Value} {ty : FieldType} (hd : decode code pc = .ok (.putfield idx, 3)) (hp : pc + 3 = pc') (w : (Jvm.Cond.fieldLink own idx R0 n d).before a0 Z = true) (via : Via Z R0 O n d) (F : Fld Z h a O n d old) (E : Exa Z h a Cn)
    (L : (Jvm.Cond.lays Cn O n d).before a0 Z = true ∨ ((Jvm.Cond.laysFinal Cn O n d).before a0 Z = true ∧ own = O ∧ nm = "<init>")) (wi : (Jvm.Cond.instantiable Cn kk).before a0 Z = true) (hty : parseFieldDescriptor d = some ty) (hn : narrow ty v = v) (hf : fits ty v = true) (ge : n0 ≤ a)
    (r : ∀ h', Wr h h' a (Jvm.RoadKit.slotOf Z O n d) v → Run l R n0 Q K h' cells slots pc' Ls st) : Run l R n0 Q K h cells slots pc Ls (v :: .ref a :: st) := by
  subst hp
  exact Run.write (pc' := pc + 3) (Ls' := Ls) (rest := st) C ge (fun p e s m args below meth c hx hby hml hnm hown hZ T locs X eT => by
    obtain ⟨T', h', X', e', W, s'⟩ := putF X hx hZ hown (host := "") (Or.inl w) via eT F E (L.imp id fun q => ⟨q.1, q.2.1, by rw [hnm]; exact q.2.2⟩) wi hty hn hf (g := mkF m pc Ls (v :: .ref a :: st)) rfl rfl (hb hby hd)
    exact ⟨T', h', X', e', r h' W, s'⟩)
theorem r_putFN (C : Ctx l R Z own nm code maxL ret true n0 kz K) {idx kk : Nat} {R0 O n d Cn : String} {a : Addr} {v v' old : Value} {ty : FieldType} (hd : decode code pc = .ok (.putfield idx, 3)) (hp : pc + 3 = pc') (w : (Jvm.Cond.fieldLink own idx R0 n d).before a0 Z = true) (via : Via Z R0 O n d) (F : Fld Z h a O n d old) (E : Exa Z h a Cn)
    (L : (Jvm.Cond.lays Cn O n d).before a0 Z = true ∨ ((Jvm.Cond.laysFinal Cn O n d).before a0 Z = true ∧ own = O ∧ nm = "<init>")) (wi : (Jvm.Cond.instantiable Cn kk).before a0 Z = true) (hty : parseFieldDescriptor d = some ty) (hn : narrow ty v = v') (hf : fits ty v' = true) (ge : n0 ≤ a)
    (r : ∀ h', Wr h h' a (Jvm.RoadKit.slotOf Z O n d) v' → Run l R n0 Q K h' cells slots pc' Ls st) : Run l R n0 Q K h cells slots pc Ls (v :: .ref a :: st) := by
  subst hp
  exact Run.write (pc' := pc + 3) (Ls' := Ls) (rest := st) C ge (fun p e s m args below meth c hx hby hml hnm hown hZ T locs X eT => by
    obtain ⟨T', h', X', e', W, s'⟩ := putFN X hx hZ hown w via eT F E (L.imp id fun q => ⟨q.1, q.2.1, by rw [hnm]; exact q.2.2⟩) wi hty hn hf (g := mkF m pc Ls (v :: .ref a :: st)) rfl rfl (hb hby hd)
    exact ⟨T', h', X', e', r h' W, s'⟩)
theorem r_new (C : Ctx l R Z own nm code maxL ret fl n0 kz K) {idx n : Nat} {Cn : String} (hd : decode code pc = .ok (.new idx, 3)) (hp : pc + 3 = pc') (w : (Jvm.Cond.classLink own idx Cn).before a0 Z = true) (wi : (Jvm.Cond.instantiable Cn n).before a0 Z = true) (wz : (Jvm.Cond.initialized Cn).before a0 Z = true) (hc : cells + 1 ≤ R.cells) (hl : slots + n ≤ R.slots)
    (r : ∀ h' a, a = h.size → Ext h h' → Exa Z h' a Cn → (∀ {O nm d : String} {ty : FieldType}, Laid Z a0 Cn O nm d → parseFieldDescriptor d = some ty → Fld Z h' a O nm d (defaultValue ty)) → Run l R n0 Q K h' (cells + 1) (slots + n) pc' Ls (.ref a :: st)) : Run l R n0 Q K h cells slots pc Ls st := by
  subst hp
  exact Run.move (cells' := cells + 1) (slots' := slots + n) (pc' := pc + 3) (Ls' := Ls) (rest := .ref h.size :: st) C (fun p e s m args below meth c hx hby hml hnm hown hZ T locs X eT => by
    obtain ⟨T', h', X', e', E, A, D, -, s'⟩ := newO X hx hZ hown w wi wz eT (g := mkF m pc Ls st) rfl (hb hby hd) hc hl
    exact ⟨T', h', X', e', r h' _ rfl E A D, s'⟩)
theorem r_newarray (C : Ctx l R Z own nm code maxL ret fl n0 kz K) {aty : ArrayType} {ty : FieldType} {n : Int32} {cap : Nat} (hd : decode code pc = .ok (.newarray aty, 2)) (hp : pc + 2 = pc') (hty : newarray.typeOf aty = ty) (w : (Jvm.Cond.arrayClass ty).before a0 Z = true) (hn : ¬ n < 0) (hcap : n.toNatClampNeg ≤ cap) (hb' : cap * 8 ≤ 536870912) (hc : cells + 1 ≤ R.cells) (hl : slots + cap ≤ R.slots)
    (r : ∀ h' a k, a = h.size → Ext h h' → Arv Z h' a k ty n [] (defaultValue ty) → Run l R n0 Q K h' (cells + 1) (slots + cap) pc' Ls (.ref a :: st)) : Run l R n0 Q K h cells slots pc Ls (.int n :: st) := by
  subst hp hty
  exact Run.move (cells' := cells + 1) (slots' := slots + cap) (pc' := pc + 2) (Ls' := Ls) (rest := .ref h.size :: st) C (fun p e s m args below meth c hx hby hml hnm hown hZ T locs X eT => by
    obtain ⟨T', h', k, X', e', E, A, s'⟩ := newP X hx hZ w eT (g := mkF m pc Ls (.int n :: st)) rfl (hb hby hd) rfl hn (cap := cap) hcap hb' hc hl
    exact ⟨T', h', X', e', r h' _ k rfl E (Arv.new A hn), s'⟩)
theorem r_anewarray (C : Ctx l R Z own nm code maxL ret fl n0 kz K) {idx : Nat} {Cn : String} {n : Int32} {cap : Nat} (hd : decode code pc = .ok (.anewarray idx, 3)) (hp : pc + 3 = pc') (w : (Jvm.Cond.classLink own idx Cn).before a0 Z = true) (w2 : (Jvm.Cond.arrayOver (.object Cn)).before a0 Z = true) (hn : ¬ n < 0) (hcap : n.toNatClampNeg ≤ cap) (hb' : cap * 8 ≤ 536870912) (hc : cells + 1 ≤ R.cells) (hl : slots + cap ≤ R.slots)
    (r : ∀ h' a k, a = h.size → Ext h h' → Arv Z h' a k (.object Cn) n [] .null → Ovr Z k Cn → Run l R n0 Q K h' (cells + 1) (slots + cap) pc' Ls (.ref a :: st)) : Run l R n0 Q K h cells slots pc Ls (.int n :: st) := by
  subst hp
  exact Run.move (cells' := cells + 1) (slots' := slots + cap) (pc' := pc + 3) (Ls' := Ls) (rest := .ref h.size :: st) C (fun p e s m args below meth c hx hby hml hnm hown hZ T locs X eT => by
    obtain ⟨T', h', k, X', e', E, A, O, s'⟩ := newR X hx hZ hown w w2 eT (g := mkF m pc Ls (.int n :: st)) rfl (hb hby hd) rfl hn (cap := cap) hcap hb' hc hl
    exact ⟨T', h', X', e', r h' _ k rfl E (Arv.new A hn) O, s'⟩)
theorem r_checkcast (C : Ctx l R Z own nm code maxL ret fl n0 kz K) {idx : Nat} {Kn : String} {a : Addr} (hd : decode code pc = .ok (.checkcast idx, 3)) (hp : pc + 3 = pc') (w : (Jvm.Cond.classLink own idx Kn).before a0 Z = true) (F : Ins Z h a Kn true) (r : Run l R n0 Q K h cells slots pc' Ls (.ref a :: st)) : Run l R n0 Q K h cells slots pc Ls (.ref a :: st) := by
  subst hp
  exact Run.move (cells' := cells) (slots' := slots) (pc' := pc + 3) (Ls' := Ls) (rest := .ref a :: st) C (fun p e s m args below meth c hx hby hml hnm hown hZ T locs X eT => by
    obtain ⟨T', X', e', s'⟩ := castY X hx hZ hown w eT F (g := mkF m pc Ls (.ref a :: st)) rfl rfl (hb hby hd)
    exact ⟨T', h, X', e', r, s'⟩)
theorem r_checkcastNull (C : Ctx l R Z own nm code maxL ret fl n0 kz K) {idx : Nat} (hd : decode code pc = .ok (.checkcast idx, 3)) (hp : pc + 3 = pc') (r : Run l R n0 Q K h cells slots pc' Ls (.null :: st)) : Run l R n0 Q K h cells slots pc Ls (.null :: st) :=
  Run.pure C (Or.inr trivial) (fun p e s m args below meth c hx hby hown hZ T locs X eT target kk => by
    subst hp
    exact X.checkcastNull hx (g := mkF m pc Ls (.null :: st)) rfl rfl (hb hby hd) _ kk) r
theorem r_instanceof (C : Ctx l R Z own nm code maxL ret fl n0 kz K) {idx : Nat} {Kn : String} {a : Addr} (hd : decode code pc = .ok (.instanceof idx, 3)) (hp : pc + 3 = pc') (w : (Jvm.Cond.classLink own idx Kn).before a0 Z = true) (F : Ins Z h a Kn true) (r : Run l R n0 Q K h cells slots pc' Ls (.int 1 :: st)) : Run l R n0 Q K h cells slots pc Ls (.ref a :: st) := by
  subst hp
  exact Run.move (cells' := cells) (slots' := slots) (pc' := pc + 3) (Ls' := Ls) (rest := .int 1 :: st) C (fun p e s m args below meth c hx hby hml hnm hown hZ T locs X eT => by
    obtain ⟨T', X', e', s'⟩ := instY X hx hZ hown w eT F (g := mkF m pc Ls (.ref a :: st)) rfl rfl (hb hby hd)
    exact ⟨T', h, X', e', r, s'⟩)
theorem r_iastore (C : Ctx l R Z own nm code maxL ret true n0 kz K) {a : Addr} {k : ClassId} {z j : Int32} {x : Int32} {vs : List Value} {dv : Value} (hd : decode code pc = .ok (.iastore, 1)) (hp : pc + 1 = pc') (A : Arv Z h a k .int z vs dv) (hj : Inb j z) (hi : j.toNatClampNeg < vs.length) (ge : n0 ≤ a)
    (r : ∀ h', Wr h h' a j.toNatClampNeg (.int x) → Arv Z h' a k .int z (vs.set j.toNatClampNeg (.int x)) dv → Run l R n0 Q K h' cells slots pc' Ls st) : Run l R n0 Q K h cells slots pc Ls (.int x :: .int j :: .ref a :: st) := by
  subst hp
  exact Run.write (pc' := pc + 1) (Ls' := Ls) (rest := st) C ge (fun p e s m args below meth c hx hby hml hnm hown hZ T locs X eT => by
    obtain ⟨cl, Ar, q1, S, N1, H, G⟩ := A
    obtain ⟨T', h', X', e', W, s'⟩ := stI X hx hZ eT Ar (j := j) (x := x) (inb_of S hj) (g := mkF m pc Ls (.int x :: .int j :: .ref a :: st)) rfl rfl (hb hby hd)
    exact ⟨T', h', X', e', r h' W (Arv.set Ar q1 S N1 H G rfl W _ rfl hi), s'⟩)
theorem r_lastore (C : Ctx l R Z own nm code maxL ret true n0 kz K) {a : Addr} {k : ClassId} {z j : Int32} {x : Int64} {vs : List Value} {dv : Value} (hd : decode code pc = .ok (.lastore, 1)) (hp : pc + 1 = pc') (A : Arv Z h a k .long z vs dv) (hj : Inb j z) (hi : j.toNatClampNeg < vs.length) (ge : n0 ≤ a)
    (r : ∀ h', Wr h h' a j.toNatClampNeg (.long x) → Arv Z h' a k .long z (vs.set j.toNatClampNeg (.long x)) dv → Run l R n0 Q K h' cells slots pc' Ls st) : Run l R n0 Q K h cells slots pc Ls (.long x :: .int j :: .ref a :: st) := by
  subst hp
  exact Run.write (pc' := pc + 1) (Ls' := Ls) (rest := st) C ge (fun p e s m args below meth c hx hby hml hnm hown hZ T locs X eT => by
    obtain ⟨cl, Ar, q1, S, N1, H, G⟩ := A
    obtain ⟨T', h', X', e', W, s'⟩ := stJ X hx hZ eT Ar (j := j) (x := x) (inb_of S hj) (g := mkF m pc Ls (.long x :: .int j :: .ref a :: st)) rfl rfl (hb hby hd)
    exact ⟨T', h', X', e', r h' W (Arv.set Ar q1 S N1 H G rfl W _ rfl hi), s'⟩)
theorem r_castore (C : Ctx l R Z own nm code maxL ret true n0 kz K) {a : Addr} {k : ClassId} {z j x : Int32} {vs : List Value} {dv : Value} (hd : decode code pc = .ok (.castore, 1)) (hp : pc + 1 = pc') (A : Arv Z h a k .char z vs dv) (hj : Inb j z) (hi : j.toNatClampNeg < vs.length) (hf : fits .char (.int (nar .char x)) = true) (ge : n0 ≤ a)
    (r : ∀ h', Wr h h' a j.toNatClampNeg (.int (nar .char x)) → Arv Z h' a k .char z (vs.set j.toNatClampNeg (.int (nar .char x))) dv → Run l R n0 Q K h' cells slots pc' Ls st) : Run l R n0 Q K h cells slots pc Ls (.int x :: .int j :: .ref a :: st) := by
  subst hp
  exact Run.write (pc' := pc + 1) (Ls' := Ls) (rest := st) C ge (fun p e s m args below meth c hx hby hml hnm hown hZ T locs X eT => by
    obtain ⟨cl, Ar, q1, S, N1, H, G⟩ := A
    obtain ⟨T', h', X', e', W, s'⟩ := stC X hx hZ eT Ar (j := j) (x := x) (inb_of S hj) (g := mkF m pc Ls (.int x :: .int j :: .ref a :: st)) rfl rfl (hb hby hd)
    exact ⟨T', h', X', e', r h' W (Arv.set Ar q1 S N1 H G hf W _ rfl hi), s'⟩)
theorem r_bastore (C : Ctx l R Z own nm code maxL ret true n0 kz K) {a : Addr} {k : ClassId} {z j x : Int32} {vs : List Value} {dv : Value} (hd : decode code pc = .ok (.bastore, 1)) (hp : pc + 1 = pc') (A : Arv Z h a k .byte z vs dv) (hj : Inb j z) (hi : j.toNatClampNeg < vs.length) (hf : fits .byte (.int (nar .byte x)) = true) (ge : n0 ≤ a)
    (r : ∀ h', Wr h h' a j.toNatClampNeg (.int (nar .byte x)) → Arv Z h' a k .byte z (vs.set j.toNatClampNeg (.int (nar .byte x))) dv → Run l R n0 Q K h' cells slots pc' Ls st) : Run l R n0 Q K h cells slots pc Ls (.int x :: .int j :: .ref a :: st) := by
  subst hp
  exact Run.write (pc' := pc + 1) (Ls' := Ls) (rest := st) C ge (fun p e s m args below meth c hx hby hml hnm hown hZ T locs X eT => by
    obtain ⟨cl, Ar, q1, S, N1, H, G⟩ := A
    obtain ⟨T', h', X', e', W, s'⟩ := stB X hx hZ eT Ar (j := j) (x := x) (inb_of S hj) (g := mkF m pc Ls (.int x :: .int j :: .ref a :: st)) rfl rfl (hb hby hd)
    exact ⟨T', h', X', e', r h' W (Arv.set Ar q1 S N1 H G hf W _ rfl hi), s'⟩)
theorem r_bastoreZ (C : Ctx l R Z own nm code maxL ret true n0 kz K) {a : Addr} {k : ClassId} {z j x : Int32} {vs : List Value} {dv : Value} (hd : decode code pc = .ok (.bastore, 1)) (hp : pc + 1 = pc') (A : Arv Z h a k .boolean z vs dv) (hj : Inb j z) (hi : j.toNatClampNeg < vs.length) (hf : fits .boolean (.int (nar .boolean x)) = true) (ge : n0 ≤ a)
    (r : ∀ h', Wr h h' a j.toNatClampNeg (.int (nar .boolean x)) → Arv Z h' a k .boolean z (vs.set j.toNatClampNeg (.int (nar .boolean x))) dv → Run l R n0 Q K h' cells slots pc' Ls st) : Run l R n0 Q K h cells slots pc Ls (.int x :: .int j :: .ref a :: st) := by
  subst hp
  exact Run.write (pc' := pc + 1) (Ls' := Ls) (rest := st) C ge (fun p e s m args below meth c hx hby hml hnm hown hZ T locs X eT => by
    obtain ⟨cl, Ar, q1, S, N1, H, G⟩ := A
    obtain ⟨T', h', X', e', W, s'⟩ := stZ X hx hZ eT Ar (j := j) (x := x) (inb_of S hj) (g := mkF m pc Ls (.int x :: .int j :: .ref a :: st)) rfl rfl (hb hby hd)
    exact ⟨T', h', X', e', r h' W (Arv.set Ar q1 S N1 H G hf W _ rfl hi), s'⟩)
/-- what may lie in a reference array -/
def Stv (Z : State) (h : Heap) (k : ClassId) (v : Value) : Prop := v = .null ∨ ∃ y C, v = .ref y ∧ Ovr Z k C ∧ Ins Z h y C true
theorem r_aastore (C : Ctx l R Z own nm code maxL ret true n0 kz K) {a : Addr} {k : ClassId} {ty : FieldType} {z j : Int32} {v : Value} {vs : List Value} {dv : Value} (hd : decode code pc = .ok (.aastore, 1)) (hp : pc + 1 = pc') (A : Arv Z h a k ty z vs dv) (hty : ty.isReference = true) (hj : Inb j z) (hi : j.toNatClampNeg < vs.length) (F : Stv Z h k v) (ge : n0 ≤ a)
    (r : ∀ h', Wr h h' a j.toNatClampNeg v → Arv Z h' a k ty z (vs.set j.toNatClampNeg v) dv → Run l R n0 Q K h' cells slots pc' Ls st) : Run l R n0 Q K h cells slots pc Ls (v :: .int j :: .ref a :: st) := by
  subst hp
  exact Run.write (pc' := pc + 1) (Ls' := Ls) (rest := st) C ge (fun p e s m args below meth c hx hby hml hnm hown hZ T locs X eT => by
    obtain ⟨cl, Ar, q1, S, N1, H, G⟩ := A
    have F' : Sto Z h a v := by
      rcases F with rfl | ⟨y, Cn, rfl, O, I⟩
      · exact Or.inl rfl
      · exact Sto.ofV Ar q1 O I
    have hf : fits ty v = true := by
      rcases F with rfl | ⟨y, Cn, rfl, O, I⟩ <;> cases ty <;> first | rfl | (cases hty; done)
    obtain ⟨T', h', X', e', W, s'⟩ := stR X hx hZ eT Ar (j := j) (inb_of S hj) hty F' (g := mkF m pc Ls (v :: .int j :: .ref a :: st)) rfl rfl (hb hby hd)
    exact ⟨T', h', X', e', r h' W (Arv.set Ar q1 S N1 H G hf W _ rfl hi), s'⟩)
theorem r_initO (C : Ctx l R Z own nm code maxL ret fl n0 kz K) {idx W : Nat} {a : Addr} (hd : decode code pc = .ok (.invokespecial idx, 3)) (hp : pc + 3 = pc') (w1 : (Jvm.Cond.methodLink own idx Lib.objectInit).before a0 Z = true) (w2 : (Jvm.Cond.instanceMethod Lib.objectInit).before a0 Z = true) (w3 : (Jvm.Cond.code Lib.objectInit ⟨#[0xb1]⟩ 1 none).before a0 Z = true)
    (hsz : Ls.size = maxL) (hf : 1 ≤ R.frames) (hW : (st.map fun v => v.category).sum ≤ W) (hl : W + 12 ≤ R.locals) (r : Run l R n0 Q K h cells slots pc' Ls st) : Run l R n0 Q K h cells slots pc Ls (.ref a :: st) := by
  subst hp
  exact Run.move (cells' := cells) (slots' := slots) (pc' := pc + 3) (Ls' := Ls) (rest := st) C (fun p e s m args below meth c hx hby hml hnm hown hZ T locs X eT => by
    obtain ⟨T', X', e', s'⟩ := initO X hx hZ hown w1 w2 w3 eT (g := mkF m pc Ls (.ref a :: st)) rfl (by rw [hml]; exact hsz) rfl (hb hby hd) hf (W := W) (by show 2 * 0 + _ ≤ _; omega) hl
    exact ⟨T', h, X', e', r, s'⟩)
theorem Con.back {y : MethodName} {bytes : ByteArray} {mL : Nat} {rt : Option FieldType} {rm : Room} {as : Array Value} {Q' : Option Value → Heap → Prop} {len W : Nat} {p : Program} {e : Env} {below : List Frame} {s : State} {args : Array Value} (M : Con l [] y bytes mL rt rm Z as h n0 Q') (hZ : Z.Warmed39 s.vm) (wc : (Jvm.Cond.code y bytes mL rt).before a0 Z = true) (wz : (Jvm.Cond.initialized y.cls).before a0 Z = true) (hf : rm.frames + 1 ≤ R.frames) (hl : W + (mL + 11) + rm.locals ≤ R.locals) :
    Back l R p e below s args y len W (fun A a => a = as ∧ A.U.heap = h ∧ A.cells + rm.cells ≤ R.cells ∧ A.slots + rm.slots ≤ R.slots) (fun A _ v B => ∃ L, (Q' v B.U.heap ∧ Fr n0 L) ∧ B.locs = A.locs ++ L ∧ B.cells = A.cells + rm.cells ∧ B.slots = A.slots + rm.slots) :=
  backOf (Q := fun v h L => Q' v h ∧ Fr n0 L) M hZ wc wz hf hl
/-- a static method by its contract -/
theorem r_callS (C : Ctx l R Z own nm code maxL ret true n0 kz K) {idx : Nat} {y : MethodName} {bytes : ByteArray} {mL : Nat} {rt : Option FieldType} {rm : Room} {argsL : List Value} {Q' : Option Value → Heap → Prop} {ps : List FieldType} {rr : Option FieldType} {W cells' slots' : Nat} {stk : List Value}
    (M : Con l [] y bytes mL rt rm Z argsL.toArray h n0 Q') (hd : decode code pc = .ok (.invokestatic idx, 3)) (hp : pc + 3 = pc') (w1 : (Jvm.Cond.methodLink own idx y).before a0 Z = true) (w2 : (Jvm.Cond.static y).before a0 Z = true) (w3 : (Jvm.Cond.initialized y.cls).before a0 Z = true) (w4 : (Jvm.Cond.code y bytes mL rt).before a0 Z = true)
    (hy : y.cls ≠ "java/lang/invoke/MethodHandle" ∧ y.cls ≠ "java/lang/invoke/VarHandle") (pd : parseMethodDescriptor y.desc = some ⟨ps, rr⟩) (hlen : argsL.length = ps.length) (hst : stk = argsL.reverse ++ st) (hsz : Ls.size = maxL) (hW : (st.map fun v => v.category).sum ≤ W)
    (hf : rm.frames + 1 ≤ R.frames) (hlo : W + (mL + 11) + rm.locals ≤ R.locals) (hc : cells + rm.cells ≤ R.cells) (hs : slots + rm.slots ≤ R.slots) (ec : cells + rm.cells = cells') (es : slots + rm.slots = slots')
    (r : ∀ v h', Q' v h' → Run l R n0 Q K h' cells' slots' pc' Ls (v.toList ++ st)) : Run l R n0 Q K h cells slots pc Ls stk := by
  obtain ⟨Pl, En, p, e, s, m, args, below, meth, c⟩ := K
  intro T locs X eT N
  obtain ⟨hx, hZ, hown, hby, hml, -, hnm, -, hcl, hfr, -⟩ := C
  subst hp hst ec es
  obtain ⟨v, _, ⟨T', L', k', n'⟩, -, X', ⟨Lc, ⟨hQ, N'⟩, l', y', z'⟩, s'⟩ := Jvm.LawKit.callS X hx (y := y) hown (mvT hZ w1) (mvT hZ w2) (mvT hZ w3) (mvT hZ w4) hy (Con.back (W := W) M hZ w4 w3 hf hlo) (g := mkF m pc Ls (argsL.reverse ++ st)) rfl (by rw [hml]; exact hsz) (argsL := argsL) (rest := st) (lenOf pd hlen) rfl (by show 2 * 0 + _ ≤ _; omega) (hb hby hd) (fun _ _ => ⟨rfl, eT, hc, hs⟩)
  dsimp only [Pt.U, Pt.locs, Pt.cells, Pt.slots] at X' l' y' z' s' hQ N'
  subst l' y' z'
  obtain ⟨s2, o, k1, k2⟩ := r v T'.heap hQ T' _ X' rfl (hcl rfl _ (Fr.app (hfr _ N) N'))
  exact ⟨s2, o, s' _ k1, k2⟩
/-- a constructor by its contract -/
theorem r_callI (C : Ctx l R Z own nm code maxL ret true n0 kz K) {idx : Nat} {y : MethodName} {bytes : ByteArray} {mL : Nat} {rm : Room} {a : Addr} {argsL : List Value} {Q' : Option Value → Heap → Prop} {ps : List FieldType} {rr : Option FieldType} {W cells' slots' : Nat} {stk : List Value}
    (M : Con l [] y bytes mL none rm Z (.ref a :: argsL).toArray h n0 Q') (hd : decode code pc = .ok (.invokespecial idx, 3)) (hp : pc + 3 = pc') (w1 : (Jvm.Cond.methodLink own idx y).before a0 Z = true) (w2 : (Jvm.Cond.instanceMethod y).before a0 Z = true) (w3 : (Jvm.Cond.initialized y.cls).before a0 Z = true) (w4 : (Jvm.Cond.code y bytes mL none).before a0 Z = true)
    (hin : y.name = "<init>") (hy : y.cls ≠ "java/lang/invoke/MethodHandle" ∧ y.cls ≠ "java/lang/invoke/VarHandle") (pd : parseMethodDescriptor y.desc = some ⟨ps, rr⟩) (hlen : argsL.length = ps.length) (hst : stk = argsL.reverse ++ .ref a :: st) (hsz : Ls.size = maxL) (hW : (st.map fun v => v.category).sum ≤ W)
    (hf : rm.frames + 1 ≤ R.frames) (hlo : W + (mL + 11) + rm.locals ≤ R.locals) (hc : cells + rm.cells ≤ R.cells) (hs : slots + rm.slots ≤ R.slots) (ec : cells + rm.cells = cells') (es : slots + rm.slots = slots')
    (r : ∀ v h', Q' v h' → Run l R n0 Q K h' cells' slots' pc' Ls (v.toList ++ st)) : Run l R n0 Q K h cells slots pc Ls stk := by
  obtain ⟨Pl, En, p, e, s, m, args, below, meth, c⟩ := K
  intro T locs X eT N
  obtain ⟨hx, hZ, hown, hby, hml, -, hnm, -, hcl, hfr, -⟩ := C
  subst hp hst ec es
  obtain ⟨v, _, ⟨T', L', k', n'⟩, -, X', ⟨Lc, ⟨hQ, N'⟩, l', y', z'⟩, s'⟩ := X.specialBack hx (y := y) hin hown (mvT hZ w1) (mvT hZ w2) (mvT hZ w4) hy (Con.back (W := W) M hZ w4 w3 hf hlo) (g := mkF m pc Ls (argsL.reverse ++ .ref a :: st)) rfl (by rw [hml]; exact hsz) (Steps.refl _) (a := a) (argsL := argsL) (rest := st) (lenOf pd hlen) rfl (by show 2 * 0 + _ ≤ _; omega) (hb hby hd) (fun _ _ => ⟨rfl, eT, hc, hs⟩)
  dsimp only [Pt.U, Pt.locs, Pt.cells, Pt.slots] at X' l' y' z' s' hQ N'
  subst l' y' z'
  obtain ⟨s2, o, k1, k2⟩ := r v T'.heap hQ T' _ X' rfl (hcl rfl _ (Fr.app (hfr _ N) N'))
  exact ⟨s2, o, s'.trans k1, k2⟩
/-- an instance method by the contract of the body that the receiver's class selects -/
theorem r_callV (C : Ctx l R Z own nm code maxL ret true n0 kz K) {idx : Nat} {y z : MethodName} {Cn : String} {bytes : ByteArray} {mL : Nat} {rt : Option FieldType} {rm : Room} {a : Addr} {argsL : List Value} {Q' : Option Value → Heap → Prop} {ps : List FieldType} {rr : Option FieldType} {W cells' slots' : Nat} {stk : List Value}
    (M : Con l [] z bytes mL rt rm Z (.ref a :: argsL).toArray h n0 Q') (E : Exa Z h a Cn) (hd : decode code pc = .ok (.invokevirtual idx, 3)) (hp : pc + 3 = pc') (w1 : (Jvm.Cond.methodLink own idx y).before a0 Z = true) (wd : (Jvm.Cond.declares y).before a0 Z = true) (nf : ∀ (s : State) (args : Array Value), Z.Warmed39 s.vm → NotFace s y) (ws : (Jvm.Cond.selects Cn y z).before a0 Z = true) (w2 : (Jvm.Cond.instanceMethod z).before a0 Z = true) (w3 : (Jvm.Cond.initialized z.cls).before a0 Z = true) (w4 : (Jvm.Cond.code z bytes mL rt).before a0 Z = true)
    (hy : y.cls ≠ "java/lang/invoke/MethodHandle" ∧ y.cls ≠ "java/lang/invoke/VarHandle") (pd : parseMethodDescriptor y.desc = some ⟨ps, rr⟩) (hlen : argsL.length = ps.length) (hst : stk = argsL.reverse ++ .ref a :: st) (hsz : Ls.size = maxL) (hW : (st.map fun v => v.category).sum ≤ W)
    (hf : rm.frames + 1 ≤ R.frames) (hlo : W + (mL + 11) + rm.locals ≤ R.locals) (hc : cells + rm.cells ≤ R.cells) (hs : slots + rm.slots ≤ R.slots) (ec : cells + rm.cells = cells') (es : slots + rm.slots = slots')
    (r : ∀ v h', Q' v h' → Run l R n0 Q K h' cells' slots' pc' Ls (v.toList ++ st)) : Run l R n0 Q K h cells slots pc Ls stk := by
  obtain ⟨Pl, En, p, e, s, m, args, below, meth, c⟩ := K
  intro T locs X eT N
  obtain ⟨hx, hZ, hown, hby, hml, -, hnm, -, hcl, hfr, -⟩ := C
  subst hp hst ec es
  obtain ⟨cq, kq, qa, qb, qc⟩ := isOf hZ eT E
  obtain ⟨v, _, ⟨T', L', k', n'⟩, -, X', ⟨Lc, ⟨hQ, N'⟩, l', y', z'⟩, s'⟩ := X.virtualBack hx (y := y) (z := z) hown (mvT hZ w1) (mvT hZ wd) (nf s args hZ) (mvT hZ ws) (mvT hZ w2) hy (Con.back (W := W) M hZ w4 w3 hf hlo) qa qc (g := mkF m pc Ls (argsL.reverse ++ .ref a :: st)) rfl (by rw [hml]; exact hsz) (Steps.refl _) (argsL := argsL) (rest := st) (lenOf pd hlen) rfl (by show 2 * 0 + _ ≤ _; omega) (hb hby hd) (fun _ _ => ⟨rfl, eT, hc, hs⟩)
  dsimp only [Pt.U, Pt.locs, Pt.cells, Pt.slots] at X' l' y' z' s' hQ N'
  subst l' y' z'
  obtain ⟨s2, o, k1, k2⟩ := r v T'.heap hQ T' _ X' rfl (hcl rfl _ (Fr.app (hfr _ N) N'))
  exact ⟨s2, o, s'.trans k1, k2⟩
theorem nfSel {y z : MethodName} {Cn : String} (w : (Jvm.Cond.selects Cn y y).before a0 Z = true) : ∀ (s : State) (args : Array Value), Z.Warmed39 s.vm → NotFace s y := fun s args hZ => notFace_of_selects (args := args) (mvT hZ w)
/-- a private instance method by its contract (invokevirtual) -/
theorem r_callP (C : Ctx l R Z own nm code maxL ret true n0 kz K) {idx : Nat} {y : MethodName} {bytes : ByteArray} {mL : Nat} {rt : Option FieldType} {rm : Room} {a : Addr} {Cn : String} {argsL : List Value} {Q' : Option Value → Heap → Prop} {ps : List FieldType} {rr : Option FieldType} {W cells' slots' : Nat} {stk : List Value}
    (M : Con l [] y bytes mL rt rm Z (.ref a :: argsL).toArray h n0 Q') (E : Exa Z h a Cn) (hd : decode code pc = .ok (.invokevirtual idx, 3)) (hp : pc + 3 = pc') (w1 : (Jvm.Cond.methodLink own idx y).before a0 Z = true) (w2 : (Jvm.Cond.instanceMethod y).before a0 Z = true) {kk : Nat} (wi : (Jvm.Cond.instantiable y.cls kk).before a0 Z = true) (wp : (Jvm.Cond.privateMethod y).before a0 Z = true) (w3 : (Jvm.Cond.initialized y.cls).before a0 Z = true) (w4 : (Jvm.Cond.code y bytes mL rt).before a0 Z = true)
    (hy : y.cls ≠ "java/lang/invoke/MethodHandle" ∧ y.cls ≠ "java/lang/invoke/VarHandle") (pd : parseMethodDescriptor y.desc = some ⟨ps, rr⟩) (hlen : argsL.length = ps.length) (hst : stk = argsL.reverse ++ .ref a :: st) (hsz : Ls.size = maxL) (hW : (st.map fun v => v.category).sum ≤ W)
    (hf : rm.frames + 1 ≤ R.frames) (hlo : W + (mL + 11) + rm.locals ≤ R.locals) (hc : cells + rm.cells ≤ R.cells) (hs : slots + rm.slots ≤ R.slots) (ec : cells + rm.cells = cells') (es : slots + rm.slots = slots')
    (r : ∀ v h', Q' v h' → Run l R n0 Q K h' cells' slots' pc' Ls (v.toList ++ st)) : Run l R n0 Q K h cells slots pc Ls stk := by
  obtain ⟨Pl, En, p, e, s, m, args, below, meth, c⟩ := K
  intro T locs X eT N
  obtain ⟨hx, hZ, hown, hby, hml, -, hnm, -, hcl, hfr, -⟩ := C
  subst hp hst ec es
  obtain ⟨cq, q1, q2⟩ := E.cell
  have hpr : s.PrivateAt y := Cond.privateMethod_at (mvP hZ wp (args := #[]))
  have hw2 : (Jvm.Cond.instanceMethod y).before args s = true := mvT hZ w2
  obtain ⟨c2, k2, hc2, hk2, -, hni, -, -⟩ := Cond.instantiable_spec (mvT (args := args) hZ wi)
  have hsel := Stand.selects_self_of_private hc2 hk2 (Bool.or_eq_false_iff.mp hni).1 hpr hw2 hy
  obtain ⟨v, _, ⟨T', L', k', n'⟩, -, X', ⟨Lc, ⟨hQ, N'⟩, l', y', z'⟩, s'⟩ := X.privateBack hx (y := y) hown (mvT hZ w1) hw2 hsel hpr (mvT hZ w4) hy (Con.back (W := W) M hZ w4 w3 hf hlo) (g := mkF m pc Ls (argsL.reverse ++ .ref a :: st)) rfl (by rw [hml]; exact hsz) (Steps.refl _) (a := a) (by rw [eT]; exact q1) q2 (argsL := argsL) (rest := st) (lenOf pd hlen) rfl (by show 2 * 0 + _ ≤ _; omega) (hb hby hd) (fun _ _ => ⟨rfl, eT, hc, hs⟩)
  dsimp only [Pt.U, Pt.locs, Pt.cells, Pt.slots] at X' l' y' z' s' hQ N'
  subst l' y' z'
  obtain ⟨s2, o, k1, k2⟩ := r v T'.heap hQ T' _ X' rfl (hcl rfl _ (Fr.app (hfr _ N) N'))
  exact ⟨s2, o, s'.trans k1, k2⟩
/-- through an interface -/
theorem r_callF (C : Ctx l R Z own nm code maxL ret true n0 kz K) {idx count : Nat} {y z : MethodName} {Cn : String} {bytes : ByteArray} {mL : Nat} {rt : Option FieldType} {rm : Room} {a : Addr} {argsL : List Value} {Q' : Option Value → Heap → Prop} {ps : List FieldType} {rr : Option FieldType} {W cells' slots' : Nat} {stk : List Value}
    (M : Con l [] z bytes mL rt rm Z (.ref a :: argsL).toArray h n0 Q') (E : Exa Z h a Cn) (hd : decode code pc = .ok (.invokeinterface idx count, 5)) (hp : pc + 5 = pc') (w1 : (Jvm.Cond.methodLink own idx y).before a0 Z = true) (wd : (Jvm.Cond.declares y).before a0 Z = true) (wf : (Jvm.Cond.interfaceMethod y.cls y.cls y.name y.desc).before a0 Z = true) (ws : (Jvm.Cond.selects Cn y z).before a0 Z = true) (w2 : (Jvm.Cond.instanceMethod z).before a0 Z = true) (wp : (Jvm.Cond.publicMethod z).before a0 Z = true) (wu : (Jvm.Cond.unhidden Cn y.name y.desc).before a0 Z = true) (wc : (Jvm.Cond.castable Cn y.cls).before a0 Z = true) (w3 : (Jvm.Cond.initialized z.cls).before a0 Z = true) (w4 : (Jvm.Cond.code z bytes mL rt).before a0 Z = true)
    (hfa : ((Jvm.Cond.interfaceMethod y.cls y.cls y.name y.desc).onTables && (Jvm.Cond.interfaceMethod y.cls y.cls y.name y.desc).keepsFace) = true) (hy : y.cls ≠ "java/lang/invoke/MethodHandle" ∧ y.cls ≠ "java/lang/invoke/VarHandle") (pd : parseMethodDescriptor y.desc = some ⟨ps, rr⟩) (hlen : argsL.length = ps.length) (hst : stk = argsL.reverse ++ .ref a :: st) (hsz : Ls.size = maxL) (hW : (st.map fun v => v.category).sum ≤ W)
    (hf : rm.frames + 1 ≤ R.frames) (hlo : W + (mL + 11) + rm.locals ≤ R.locals) (hc : cells + rm.cells ≤ R.cells) (hs : slots + rm.slots ≤ R.slots) (ec : cells + rm.cells = cells') (es : slots + rm.slots = slots')
    (r : ∀ v h', Q' v h' → Run l R n0 Q K h' cells' slots' pc' Ls (v.toList ++ st)) : Run l R n0 Q K h cells slots pc Ls stk := by
  obtain ⟨Pl, En, p, e, s, m, args, below, meth, c⟩ := K
  intro T locs X eT N
  obtain ⟨hx, hZ, hown, hby, hml, -, hnm, -, hcl, hfr, -⟩ := C
  subst hp hst ec es
  obtain ⟨cq, kq, qa, qb, qc⟩ := isOf hZ eT E
  obtain ⟨v, _, ⟨T', L', k', n'⟩, -, X', ⟨Lc, ⟨hQ, N'⟩, l', y', z'⟩, s'⟩ := X.interfaceBack hx (xi := y) (y := z) hown (mvT hZ w1) (mvT hZ wd) (mvT hZ wf hfa) (mvT hZ ws) (mvT hZ w2) (mvT hZ wp) (mvT hZ wu) (mvT hZ wc) hy (Con.back (W := W) M hZ w4 w3 hf hlo) qa qb qc (g := mkF m pc Ls (argsL.reverse ++ .ref a :: st)) rfl (by rw [hml]; exact hsz) (Steps.refl _) (argsL := argsL) (rest := st) (lenOf pd hlen) rfl (by show 2 * 0 + _ ≤ _; omega) (hb hby hd) (fun _ _ => ⟨rfl, eT, hc, hs⟩)
  dsimp only [Pt.U, Pt.locs, Pt.cells, Pt.slots] at X' l' y' z' s' hQ N'
  subst l' y' z'
  obtain ⟨s2, o, k1, k2⟩ := r v T'.heap hQ T' _ X' rfl (hcl rfl _ (Fr.app (hfr _ N) N'))
  exact ⟨s2, o, s'.trans k1, k2⟩

/-! numbers -/
def i32 (n : Nat) : Int32 := Int32.ofNat n
theorem i32_toInt {n : Nat} (h : n < 2147483648) : (i32 n).toInt = (n : Int) := Int32.toInt_ofNat_small h
theorem i32_clamp {n : Nat} (h : n < 2147483648) : (i32 n).toNatClampNeg = n := by
  show ((i32 n).toInt).toNat = n
  rw [i32_toInt h]; rfl
theorem i32_nn {n : Nat} (h : n < 2147483648) : ¬ i32 n < 0 := by
  rw [Int32.lt_iff_toInt_lt, i32_toInt h]; show ¬ (n : Int) < 0; omega
theorem i32_lt {a b : Nat} (ha : a < 2147483648) (hb : b < 2147483648) : i32 a < i32 b ↔ a < b := by
  rw [Int32.lt_iff_toInt_lt, i32_toInt ha, i32_toInt hb]; omega
theorem i32_eq {a b : Nat} (ha : a < 2147483648) (hb : b < 2147483648) : i32 a = i32 b ↔ a = b := by
  rw [← Int32.toInt_inj, i32_toInt ha, i32_toInt hb]; omega
theorem i32_add (a b : Nat) : i32 a + i32 b = i32 (a + b) := (Int32.ofNat_add a b).symm
theorem i32_mul (a b : Nat) : i32 a * i32 b = i32 (a * b) := (Int32.ofNat_mul a b).symm
theorem i32_sub {a b : Nat} (h : b ≤ a) : i32 a - i32 b = i32 (a - b) := by
  have e : i32 a = i32 (a - b) + i32 b := by rw [i32_add, Nat.sub_add_cancel h]
  rw [e, Int32.add_sub_cancel]
theorem i32_of {x : Int32} (h : ¬ x < 0) : x = i32 x.toNatClampNeg := (back32 h).1.symm
theorem bm32 {n : Int} (h1 : -2147483648 ≤ n) (h2 : n < 2147483648) : n.bmod (2 ^ 32) = n := Int.bmod_eq_of_le (by omega) (by omega)
theorem i32_div {a b : Nat} (ha : a < 2147483648) (hb : b < 2147483648) : i32 a / i32 b = i32 (a / b) := by
  apply Int32.toInt_inj.mp
  have hq : a / b < 2147483648 := Nat.lt_of_le_of_lt (Nat.div_le_self a b) ha
  rw [Int32.toInt_div, i32_toInt ha, i32_toInt hb, i32_toInt hq, Int.tdiv_eq_ediv_of_nonneg (by omega)]
  have e : (a : Int) / (b : Int) = ((a / b : Nat) : Int) := rfl
  rw [e]; exact bm32 (Int.le_trans (by decide) (Int.natCast_nonneg _)) (Int.ofNat_lt.mpr hq)
theorem i32_rem {a b : Nat} (ha : a < 2147483648) (hb : b < 2147483648) : i32 a % i32 b = i32 (a % b) := by
  apply Int32.toInt_inj.mp
  have hq : a % b < 2147483648 := Nat.lt_of_le_of_lt (Nat.mod_le a b) ha
  rw [Int32.toInt_mod, i32_toInt ha, i32_toInt hb, i32_toInt hq, Int.tmod_eq_emod_of_nonneg (by omega)]
  rfl
theorem i32_ushr1 {a : Nat} (ha : a < 2147483648) : XT.ushr (i32 a) 1 = i32 (a / 2) := by
  have h1 : (i32 a).toUInt32 = UInt32.ofNat a := rfl
  show ((i32 a).toUInt32 >>> ((1 : Int32) &&& 31).toUInt32).toInt32 = _
  rw [h1, show ((1 : Int32) &&& 31).toUInt32 = 1 from rfl]
  apply Int32.toBitVec_inj.mp
  show (UInt32.ofNat a >>> 1).toBitVec = BitVec.ofNat 32 (a / 2)
  apply BitVec.eq_of_toNat_eq
  show (UInt32.ofNat a >>> 1).toNat = (a / 2) % 2 ^ 32
  rw [UInt32.toNat_shiftRight]
  have e2 : (UInt32.ofNat a).toNat = a := by show a % 2 ^ 32 = a; omega
  rw [e2, show (1 : UInt32).toNat % 32 = 1 from rfl, Nat.shiftRight_eq_div_pow]; omega
theorem inb_i {i n : Nat} (h : i < n) (hn : n < 2147483648) : Inb (i32 i) (i32 n) := ⟨i32_nn (Nat.lt_trans h hn), (i32_lt (Nat.lt_trans h hn) hn).mpr h⟩
/-! an array, whole -/
def AV (Z : State) (h : Heap) (a : Addr) (k : ClassId) (ty : FieldType) (vs : List Value) (dv : Value) : Prop := Arv Z h a k ty (i32 vs.length) vs dv ∧ vs.length < 2147483648
theorem AV.lt {a : Addr} {k : ClassId} {ty : FieldType} {vs : List Value} {dv : Value} (F : AV Z h a k ty vs dv) : @LT.lt Nat _ a h.size := F.1.lt
theorem exaLt {a : Addr} {Cn : String} (F : Exa Z h a Cn) : @LT.lt Nat _ a h.size := F.lt
theorem fldLt {a : Addr} {Cn n d : String} {v : Value} (F : Fld Z h a Cn n d v) : @LT.lt Nat _ a h.size := F.lt
theorem AV.ext {a : Addr} {k : ClassId} {ty : FieldType} {vs : List Value} {dv : Value} {h' : Heap} (F : AV Z h a k ty vs dv) (E : Ext h h') : AV Z h' a k ty vs dv := ⟨F.1.ext E, F.2⟩
theorem nn {a b : Nat} (h : @Ne Nat a b) : @Ne Addr a b := h
theorem AV.other {a b : Addr} {k : ClassId} {ty : FieldType} {vs : List Value} {dv v : Value} {sl : Nat} {h' : Heap} (F : AV Z h b k ty vs dv) (W : Wr h h' a sl v) (q : b ≠ a) : AV Z h' b k ty vs dv := ⟨F.1.other W q, F.2⟩
theorem AV.keep {a : Addr} {k : ClassId} {ty : FieldType} {vs : List Value} {dv : Value} {h' : Heap} {ws : List Addr} (F : AV Z h a k ty vs dv) (Kp : Keep h h' ws) (q : a ∉ ws) : AV Z h' a k ty vs dv := ⟨F.1.keep Kp q, F.2⟩
theorem AV.cast {a : Addr} {k : ClassId} {ty : FieldType} {vs vs' : List Value} {dv : Value} (F : AV Z h a k ty vs dv) (e : vs = vs') : AV Z h a k ty vs' dv := e ▸ F
theorem getD_of {vs : List Value} {i : Nat} {v dv : Value} (h : vs[i]? = some v) : vs.getD i dv = v := by simp [List.getD_eq_getElem?_getD, h]
theorem lt_of_get {α : Type} {vs : List α} {i : Nat} {v : α} (h : vs[i]? = some v) : i < vs.length := (List.getElem?_eq_some_iff.mp h).1
theorem r_lengthV (C : Ctx l R Z own nm code maxL ret fl n0 kz K) {a : Addr} {k : ClassId} {ty : FieldType} {vs : List Value} {dv : Value} (hd : decode code pc = .ok (.arraylength, 1)) (hp : pc + 1 = pc') {n : Nat} (A : AV Z h a k ty vs dv) (hn : vs.length = n) (r : Run l R n0 Q K h cells slots pc' Ls (.int (i32 n) :: st)) : Run l R n0 Q K h cells slots pc Ls (.ref a :: st) := by
  subst hn
  exact r_arraylength C hd hp A.1 r
theorem r_aaloadA (C : Ctx l R Z own nm code maxL ret fl n0 kz K) {a : Addr} {cl : Cell} {ty : FieldType} {j : Int32} {v : Value} (hd : decode code pc = .ok (.aaload, 1)) (hp : pc + 1 = pc') (A : Arr Z h a cl ty) (hty : ty.isReference = true) (hin : ¬ (j < 0 ∨ cl.slots.size ≤ j.toNatClampNeg)) (hv : cl.slots[j.toNatClampNeg]? = some v) (r : Run l R n0 Q K h cells slots pc' Ls (v :: st)) : Run l R n0 Q K h cells slots pc Ls (.int j :: .ref a :: st) :=
  Run.pure C (Or.inr trivial) (fun p e s m args below meth c hx hby hown hZ T locs X eT target kk => by
    subst hp
    exact X.aaload hx (by rw [eT]; exact A.1) (State.isArrayOf_alike hZ.alike A.2.1) hty A.2.2 hin hv (g := mkF m pc Ls (.int j :: .ref a :: st)) rfl rfl (hb hby hd) _ kk) r
theorem r_ialoadV (C : Ctx l R Z own nm code maxL ret fl n0 kz K) {a : Addr} {k : ClassId} {j : Int32} {i : Nat} {vs : List Value} {dv v : Value} (hd : decode code pc = .ok (.iaload, 1)) (hp : pc + 1 = pc') (A : AV Z h a k .int vs dv) (hj : j = i32 i) (hv : vs[i]? = some v) (r : Run l R n0 Q K h cells slots pc' Ls (v :: st)) : Run l R n0 Q K h cells slots pc Ls (.int j :: .ref a :: st) := by
  subst hj
  have hi := lt_of_get hv
  exact r_iaload C hd hp A.1 (inb_i hi A.2) (by rw [i32_clamp (Nat.lt_trans hi A.2)]; exact getD_of hv) r
theorem r_laloadV (C : Ctx l R Z own nm code maxL ret fl n0 kz K) {a : Addr} {k : ClassId} {j : Int32} {i : Nat} {vs : List Value} {dv v : Value} (hd : decode code pc = .ok (.laload, 1)) (hp : pc + 1 = pc') (A : AV Z h a k .long vs dv) (hj : j = i32 i) (hv : vs[i]? = some v) (r : Run l R n0 Q K h cells slots pc' Ls (v :: st)) : Run l R n0 Q K h cells slots pc Ls (.int j :: .ref a :: st) := by
  subst hj
  have hi := lt_of_get hv
  exact r_laload C hd hp A.1 (inb_i hi A.2) (by rw [i32_clamp (Nat.lt_trans hi A.2)]; exact getD_of hv) r
theorem r_caloadV (C : Ctx l R Z own nm code maxL ret fl n0 kz K) {a : Addr} {k : ClassId} {j : Int32} {i : Nat} {vs : List Value} {dv v : Value} (hd : decode code pc = .ok (.caload, 1)) (hp : pc + 1 = pc') (A : AV Z h a k .char vs dv) (hj : j = i32 i) (hv : vs[i]? = some v) (r : Run l R n0 Q K h cells slots pc' Ls (v :: st)) : Run l R n0 Q K h cells slots pc Ls (.int j :: .ref a :: st) := by
  subst hj
  have hi := lt_of_get hv
  exact r_caload C hd hp A.1 (inb_i hi A.2) (by rw [i32_clamp (Nat.lt_trans hi A.2)]; exact getD_of hv) r
theorem r_baloadV (C : Ctx l R Z own nm code maxL ret fl n0 kz K) {a : Addr} {k : ClassId} {j : Int32} {i : Nat} {vs : List Value} {dv v : Value} (hd : decode code pc = .ok (.baload, 1)) (hp : pc + 1 = pc') (A : AV Z h a k .byte vs dv) (hj : j = i32 i) (hv : vs[i]? = some v) (r : Run l R n0 Q K h cells slots pc' Ls (v :: st)) : Run l R n0 Q K h cells slots pc Ls (.int j :: .ref a :: st) := by
  subst hj
  have hi := lt_of_get hv
  exact r_baload C hd hp A.1 (inb_i hi A.2) (by rw [i32_clamp (Nat.lt_trans hi A.2)]; exact getD_of hv) r
theorem r_baloadZV (C : Ctx l R Z own nm code maxL ret fl n0 kz K) {a : Addr} {k : ClassId} {j : Int32} {i : Nat} {vs : List Value} {dv v : Value} (hd : decode code pc = .ok (.baload, 1)) (hp : pc + 1 = pc') (A : AV Z h a k .boolean vs dv) (hj : j = i32 i) (hv : vs[i]? = some v) (r : Run l R n0 Q K h cells slots pc' Ls (v :: st)) : Run l R n0 Q K h cells slots pc Ls (.int j :: .ref a :: st) := by
  subst hj
  have hi := lt_of_get hv
  exact r_baloadZ C hd hp A.1 (inb_i hi A.2) (by rw [i32_clamp (Nat.lt_trans hi A.2)]; exact getD_of hv) r
theorem r_aaloadV (C : Ctx l R Z own nm code maxL ret fl n0 kz K) {a : Addr} {k : ClassId} {ty : FieldType} {j : Int32} {i : Nat} {vs : List Value} {dv v : Value} (hd : decode code pc = .ok (.aaload, 1)) (hp : pc + 1 = pc') (A : AV Z h a k ty vs dv) (hty : ty.isReference = true) (hj : j = i32 i) (hv : vs[i]? = some v) (r : Run l R n0 Q K h cells slots pc' Ls (v :: st)) : Run l R n0 Q K h cells slots pc Ls (.int j :: .ref a :: st) := by
  subst hj
  have hi := lt_of_get hv
  exact r_aaload C hd hp A.1 hty (inb_i hi A.2) (by rw [i32_clamp (Nat.lt_trans hi A.2)]; exact getD_of hv) r
theorem r_iastoreV (C : Ctx l R Z own nm code maxL ret true n0 kz K) {a : Addr} {k : ClassId} {j : Int32} {i : Nat} {x : Int32} {vs : List Value} {dv : Value} (hd : decode code pc = .ok (.iastore, 1)) (hp : pc + 1 = pc') (A : AV Z h a k .int vs dv) (hj : j = i32 i) (hi : i < vs.length) (ge : n0 ≤ a) (r : ∀ h', Wr h h' a i (.int x) → AV Z h' a k .int (vs.set i (.int x)) dv → Run l R n0 Q K h' cells slots pc' Ls st) : Run l R n0 Q K h cells slots pc Ls (.int x :: .int j :: .ref a :: st) := by
  subst hj
  have e := i32_clamp (Nat.lt_trans hi A.2)
  refine r_iastore C hd hp A.1 (inb_i hi A.2) (by rw [e]; exact hi) ge fun h' W A' => ?_
  rw [e] at W A'
  exact r h' W ⟨by rw [List.length_set]; exact A', by rw [List.length_set]; exact A.2⟩
theorem r_lastoreV (C : Ctx l R Z own nm code maxL ret true n0 kz K) {a : Addr} {k : ClassId} {j : Int32} {i : Nat} {x : Int64} {vs : List Value} {dv : Value} (hd : decode code pc = .ok (.lastore, 1)) (hp : pc + 1 = pc') (A : AV Z h a k .long vs dv) (hj : j = i32 i) (hi : i < vs.length) (ge : n0 ≤ a) (r : ∀ h', Wr h h' a i (.long x) → AV Z h' a k .long (vs.set i (.long x)) dv → Run l R n0 Q K h' cells slots pc' Ls st) : Run l R n0 Q K h cells slots pc Ls (.long x :: .int j :: .ref a :: st) := by
  subst hj
  have e := i32_clamp (Nat.lt_trans hi A.2)
  refine r_lastore C hd hp A.1 (inb_i hi A.2) (by rw [e]; exact hi) ge fun h' W A' => ?_
  rw [e] at W A'
  exact r h' W ⟨by rw [List.length_set]; exact A', by rw [List.length_set]; exact A.2⟩
theorem r_castoreV (C : Ctx l R Z own nm code maxL ret true n0 kz K) {a : Addr} {k : ClassId} {j x : Int32} {i : Nat} {vs : List Value} {dv : Value} (hd : decode code pc = .ok (.castore, 1)) (hp : pc + 1 = pc') (A : AV Z h a k .char vs dv) (hj : j = i32 i) (hi : i < vs.length) (hf : fits .char (.int (nar .char x)) = true) (ge : n0 ≤ a) (r : ∀ h', Wr h h' a i (.int (nar .char x)) → AV Z h' a k .char (vs.set i (.int (nar .char x))) dv → Run l R n0 Q K h' cells slots pc' Ls st) : Run l R n0 Q K h cells slots pc Ls (.int x :: .int j :: .ref a :: st) := by
  subst hj
  have e := i32_clamp (Nat.lt_trans hi A.2)
  refine r_castore C hd hp A.1 (inb_i hi A.2) (by rw [e]; exact hi) hf ge fun h' W A' => ?_
  rw [e] at W A'
  exact r h' W ⟨by rw [List.length_set]; exact A', by rw [List.length_set]; exact A.2⟩
theorem r_bastoreV (C : Ctx l R Z own nm code maxL ret true n0 kz K) {a : Addr} {k : ClassId} {j x : Int32} {i : Nat} {vs : List Value} {dv : Value} (hd : decode code pc = .ok (.bastore, 1)) (hp : pc + 1 = pc') (A : AV Z h a k .byte vs dv) (hj : j = i32 i) (hi : i < vs.length) (hf : fits .byte (.int (nar .byte x)) = true) (ge : n0 ≤ a) (r : ∀ h', Wr h h' a i (.int (nar .byte x)) → AV Z h' a k .byte (vs.set i (.int (nar .byte x))) dv → Run l R n0 Q K h' cells slots pc' Ls st) : Run l R n0 Q K h cells slots pc Ls (.int x :: .int j :: .ref a :: st) := by
  subst hj
  have e := i32_clamp (Nat.lt_trans hi A.2)
  refine r_bastore C hd hp A.1 (inb_i hi A.2) (by rw [e]; exact hi) hf ge fun h' W A' => ?_
  rw [e] at W A'
  exact r h' W ⟨by rw [List.length_set]; exact A', by rw [List.length_set]; exact A.2⟩
theorem r_bastoreZV (C : Ctx l R Z own nm code maxL ret true n0 kz K) {a : Addr} {k : ClassId} {j x : Int32} {i : Nat} {vs : List Value} {dv : Value} (hd : decode code pc = .ok (.bastore, 1)) (hp : pc + 1 = pc') (A : AV Z h a k .boolean vs dv) (hj : j = i32 i) (hi : i < vs.length) (hf : fits .boolean (.int (nar .boolean x)) = true) (ge : n0 ≤ a) (r : ∀ h', Wr h h' a i (.int (nar .boolean x)) → AV Z h' a k .boolean (vs.set i (.int (nar .boolean x))) dv → Run l R n0 Q K h' cells slots pc' Ls st) : Run l R n0 Q K h cells slots pc Ls (.int x :: .int j :: .ref a :: st) := by
  subst hj
  have e := i32_clamp (Nat.lt_trans hi A.2)
  refine r_bastoreZ C hd hp A.1 (inb_i hi A.2) (by rw [e]; exact hi) hf ge fun h' W A' => ?_
  rw [e] at W A'
  exact r h' W ⟨by rw [List.length_set]; exact A', by rw [List.length_set]; exact A.2⟩
theorem r_aastoreV (C : Ctx l R Z own nm code maxL ret true n0 kz K) {a : Addr} {k : ClassId} {ty : FieldType} {j : Int32} {i : Nat} {v : Value} {vs : List Value} {dv : Value} (hd : decode code pc = .ok (.aastore, 1)) (hp : pc + 1 = pc') (A : AV Z h a k ty vs dv) (hty : ty.isReference = true) (hj : j = i32 i) (hi : i < vs.length) (F : Stv Z h k v) (ge : n0 ≤ a) (r : ∀ h', Wr h h' a i v → AV Z h' a k ty (vs.set i v) dv → Run l R n0 Q K h' cells slots pc' Ls st) : Run l R n0 Q K h cells slots pc Ls (v :: .int j :: .ref a :: st) := by
  subst hj
  have e := i32_clamp (Nat.lt_trans hi A.2)
  refine r_aastore C hd hp A.1 hty (inb_i hi A.2) (by rw [e]; exact hi) F ge fun h' W A' => ?_
  rw [e] at W A'
  exact r h' W ⟨by rw [List.length_set]; exact A', by rw [List.length_set]; exact A.2⟩
theorem av_new {a : Addr} {k : ClassId} {ty : FieldType} {m : Nat} {dv : Value} (hm : m < 2147483648) (A : Arv Z h a k ty (i32 m) [] dv) : AV Z h a k ty (List.replicate m dv) dv := by
  refine ⟨?_, by simpa using hm⟩
  rw [List.length_replicate]
  have := pad_rep [] dv m
  simp only [List.nil_append] at this
  exact A.pad this
theorem r_newarrayV (C : Ctx l R Z own nm code maxL ret fl n0 kz K) {aty : ArrayType} {ty : FieldType} {j : Int32} {m cap : Nat} (hd : decode code pc = .ok (.newarray aty, 2)) (hp : pc + 2 = pc') (hty : newarray.typeOf aty = ty) (w : (Jvm.Cond.arrayClass ty).before a0 Z = true) (hj : j = i32 m) (hcap : m ≤ cap) (hb' : cap * 8 ≤ 536870912) (hc : cells + 1 ≤ R.cells) (hl : slots + cap ≤ R.slots)
    (r : ∀ h' a k, a = h.size → Ext h h' → AV Z h' a k ty (List.replicate m (defaultValue ty)) (defaultValue ty) → Run l R n0 Q K h' (cells + 1) (slots + cap) pc' Ls (.ref a :: st)) : Run l R n0 Q K h cells slots pc Ls (.int j :: st) := by
  subst hj
  have hm : m < 2147483648 := by omega
  exact r_newarray C hd hp hty w (i32_nn hm) (by rw [i32_clamp hm]; exact hcap) hb' hc hl fun h' a k e E A => r h' a k e E (av_new hm A)
theorem r_anewarrayV (C : Ctx l R Z own nm code maxL ret fl n0 kz K) {idx : Nat} {Cn : String} {j : Int32} {m cap : Nat} (hd : decode code pc = .ok (.anewarray idx, 3)) (hp : pc + 3 = pc') (w : (Jvm.Cond.classLink own idx Cn).before a0 Z = true) (w2 : (Jvm.Cond.arrayOver (.object Cn)).before a0 Z = true) (hj : j = i32 m) (hcap : m ≤ cap) (hb' : cap * 8 ≤ 536870912) (hc : cells + 1 ≤ R.cells) (hl : slots + cap ≤ R.slots)
    (r : ∀ h' a k, a = h.size → Ext h h' → AV Z h' a k (.object Cn) (List.replicate m .null) .null → Ovr Z k Cn → Run l R n0 Q K h' (cells + 1) (slots + cap) pc' Ls (.ref a :: st)) : Run l R n0 Q K h cells slots pc Ls (.int j :: st) := by
  subst hj
  have hm : m < 2147483648 := by omega
  exact r_anewarray C hd hp w w2 (i32_nn hm) (by rw [i32_clamp hm]; exact hcap) hb' hc hl fun h' a k e E A O => r h' a k e E (av_new hm A) O
theorem Keep.mono {h0 h' : Heap} {ws ws' : List Addr} (Kp : Keep h0 h' ws) (q : ∀ x ∈ ws, x ∈ ws') : Keep h0 h' ws' := ⟨Kp.1, fun x c hx r => Kp.2.1 x c hx fun z => r (q x z), Kp.2.2⟩
theorem Sta.keep {h' : Heap} {ws : List Addr} {Cn n d : String} {v : Value} (X : Old Z n0 h) (F : Sta Z Z.heap Cn n d v) : Sta Z h Cn n d v := F.ext X.2
/-! String constants -/
abbrev STR : String := "java/lang/String"
/-- a Latin-1 String: its object, its byte[] -/
def Str (Z : State) (h : Heap) (a b : Nat) (k : ClassId) (bs : List Int32) : Prop := Exa Z h a "java/lang/String" ∧ Fld Z h a "java/lang/String" "coder" "B" (.int 0) ∧ Fld Z h a "java/lang/String" "value" "[B" (.ref b) ∧ AV Z h b k .byte (bs.map Value.int) (.int 0)
theorem Str.ext {a b : Nat} {k : ClassId} {bs : List Int32} {h' : Heap} (F : Str Z h a b k bs) (E : Ext h h') : Str Z h' a b k bs := ⟨F.1.ext E, F.2.1.ext E, F.2.2.1.ext E, F.2.2.2.ext E⟩
theorem Str.keep {a b : Nat} {k : ClassId} {bs : List Int32} {h' : Heap} {ws : List Addr} (F : Str Z h a b k bs) (Kp : Keep h h' ws) (q1 : a ∉ ws) (q2 : b ∉ ws) : Str Z h' a b k bs := ⟨F.1.keep Kp, F.2.1.keep Kp q1, F.2.2.1.keep Kp q1, F.2.2.2.keep Kp q2⟩
theorem Str.other {a b x : Nat} {k : ClassId} {bs : List Int32} {h' : Heap} {sl : Nat} {v : Value} (F : Str Z h a b k bs) (W : Wr h h' x sl v) (q1 : a ≠ x) (q2 : b ≠ x) : Str Z h' a b k bs := ⟨F.1.wr W, F.2.1.other W (Or.inl q1), F.2.2.1.other W (Or.inl q1), F.2.2.2.other W q2⟩
theorem Str.lt {a b : Nat} {k : ClassId} {bs : List Int32} (F : Str Z h a b k bs) : a < h.size ∧ b < h.size := ⟨F.1.lt, F.2.2.2.lt⟩
theorem Lit.warm {vm vm' : Vm} {cn : String} {i : Nat} {a : Addr} (L : Lit (Z.setVm vm) cn i a) {s : State} (hW : (s.setVm vm).WarmedH vm') : Lit (Z.setVm vm') cn i a := (State.resolvedAt?_warmed39 (s := s.setVm vm) hW.wide L : (s.setVm vm').resolvedAt? cn i = _)
theorem IB.warm {vm vm' : Vm} {Ts : List String} (I : IB Z vm Ts) {s : State} (hW : (s.setVm vm).WarmedH vm') : IB Z vm' Ts := by
  obtain ⟨more, e, hm⟩ := I
  exact ⟨more, (hW.interned_eq).trans e, hm⟩
theorem KS_Kw {Pl : List Loc → Prop} {vm : Vm} : KS (Kw K Pl vm) = (KS K).setVm vm := by
  obtain ⟨_, En, p, e, s, m, args, below, meth, c⟩ := K; rfl
/-- the first load of a String constant, nothing yet written to what stood at the body's start -/
theorem r_ldcS {h0 : Heap} {vm : Vm} {k : Nat} {idx n : Nat} {text : String} {Ts : List String} {bs : List Int32} (W : Wb l R Z own nm code maxL ret n0 h0 K) (D : Sn K vm k) (hk : k ≤ h.size) (hd : decode code pc = .ok (.ldc idx, 2)) (hp : pc + 2 = pc') (w : (Jvm.Cond.stringLink own idx text).before a0 Z = true) (wS : ∀ a ∈ Bundle.stringAtoms, a.before a0 Z = true) (hkeep : ∀ (b : Addr) (cl : Cell), Z.heap[b]? = some cl → h0[b]? = some cl)
    (I : IB Z vm Ts) (hnot : text ∉ Ts) (hh : Jvm.Lit.constHeld Z own idx) (hcw : Jvm.Lit.compactW.before a0 Z = true) (ht : (∀ c ∈ text.toList, c.toNat < 256) ∧ text.toList.map (fun c => Value.int (Jvm.Lit.byteI c.toNat.toUInt16)) = bs.map Value.int) (hbl : bs.length < 2147483648) (hn : 4 * text.toList.length ≤ n) (hbig : n ≤ 536870912) (hc : cells + 2 ≤ R.cells) (hl : slots + (n + 4) ≤ R.slots)
    (r : ∀ vm' k' h' a b kb, Sn K vm' k' → k' ≤ h'.size → Ext h h' → Str Z h' a b kb bs → IB Z vm' (text :: Ts) → Lit (Z.setVm vm') own idx a → (KS K).Since vm' k' → Run l R n0 Q (Kw K (· = []) vm') h' (cells + 2) (slots + (n + 4)) pc' Ls (.ref a :: st)) : Run l R n0 Q (Kw K (· = []) vm) h cells slots pc Ls st := by
  obtain ⟨Pl, En, p, e, s, m, args, below, meth, c⟩ := K
  intro T locs X eT N
  subst hp
  obtain ⟨w1, w2, w3, w4, w5, w6, w7, w8, w9, w10⟩ := W
  have N' : locs = [] := N
  have D' : s.Since vm k := D
  have hZ : Z.Warmed39 vm := State.Warmed39.trans w2 D'.1
  have hown : vm.findClass own = some m.cls := by rw [D'.1.alike.findClass]; exact w3
  have z31 : (i32 bs.length).toNatClampNeg = (bs.map Value.int).length := by rw [i32_clamp hbl, List.length_map]
  obtain ⟨a, T', h', k1, b, kb, r1, r2, r3, r4, r5, r6, r7, r8, r9, r10, r11, r12, r13, r14, r15, r16⟩ := ldcSVL (Z := Z) (s := s) X w1 hZ hown w wS eT D' hk (by rw [N']; exact Fr.nil _) (fun b cl q => by rw [w9]; exact hkeep b cl q) I hnot hh hcw ht (i32_nn hbl) z31 (g := mkF m pc Ls st) rfl (hb w4 hd) hn hbig hc hl
  obtain ⟨s2, o, q1, q2⟩ := r T'.vm k1 h' a b kb r4 r5 r3 ⟨r8, r9, r10, ⟨by rw [List.length_map]; exact r11, by rw [List.length_map]; exact hbl⟩⟩ r14 r15 r4 T' locs r1 r2 N
  exact ⟨s2, o, r16 _ q1, q2⟩
theorem r_ldcA {Pl : List Loc → Prop} {h0 : Heap} {vm : Vm} {k : Nat} {idx : Nat} {text : String} {a : Addr} (W : Wb l R Z own nm code maxL ret n0 h0 K) (D : Sn K vm k) (hd : decode code pc = .ok (.ldc idx, 2)) (hp : pc + 2 = pc') (w : (Jvm.Cond.stringLink own idx text).before a0 Z = true) (L : Lit (Z.setVm vm) own idx a)
    (r : Run l R n0 Q (Kw K Pl vm) h cells slots pc' Ls (.ref a :: st)) : Run l R n0 Q (Kw K Pl vm) h cells slots pc Ls st := by
  obtain ⟨_, En, p, e, s, m, args, below, meth, c⟩ := K
  intro T locs X eT N
  subst hp
  obtain ⟨w1, w2, w3, w4, w5, w6, w7, w8, w9, w10⟩ := W
  have D' : s.Since vm k := D
  have hZ : Z.Warmed39 vm := State.Warmed39.trans w2 D'.1
  have hown : vm.findClass own = some m.cls := by rw [D'.1.alike.findClass]; exact w3
  obtain ⟨s2, o, q1, q2⟩ := r T locs X eT N
  exact ⟨s2, o, ldcAgain (Z := Z) (s := s) X w1 hZ hown w L (g := mkF m pc Ls st) rfl (hb w4 hd) _ q1, q2⟩
theorem ConW.back {y : MethodName} {bytes : ByteArray} {mL : Nat} {rt : Option FieldType} {rm : Room} {as : Array Value} {V : Vm → Prop} {Q' : Option Value → Heap → Vm → Prop} {len W : Nat} {p : Program} {e : Env} {below : List Frame} {s : State} {args : Array Value} (M : ConW l [] y bytes mL rt rm Z as h n0 V Q') (hZ : Z.Warmed39 s.vm) (wc : (Jvm.Cond.code y bytes mL rt).before a0 Z = true) (wz : (Jvm.Cond.initialized y.cls).before a0 Z = true) (hf : rm.frames + 1 ≤ R.frames) (hl : W + (mL + 11) + rm.locals ≤ R.locals) :
    BackS l R p e below s args y len W (fun A a => a = as ∧ A.U.heap = h ∧ A.cells + rm.cells ≤ R.cells ∧ A.slots + rm.slots ≤ R.slots ∧ V A.U.vm) (fun A _ v B => ∃ L, (Q' v B.U.heap B.U.vm ∧ Fr n0 L) ∧ B.locs = A.locs ++ L ∧ B.cells = A.cells + rm.cells ∧ B.slots = A.slots + rm.slots) :=
  BackS.of_freeW (bytes := bytes) (maxL := mL) (ret := rt) (E := fun _ _ o t L k n => k = rm.cells ∧ n = rm.slots ∧ ∃ v, o = .returned v ∧ (Q' v t.heap t.vm ∧ Fr n0 L)) M hf hl
    (fun m meth c A a Y hp => have hU : Z.Warmed39 A.U.vm := wtrans hZ Y.warmed
      ⟨by show (Jvm.Cond.and _ .tt).before a A.U = true; rw [Cond.before_and, mv hU wc]; rfl, mv hU wc, mv hU wz, hp.2.2.1, hp.2.2.2.1⟩)
    (fun m meth c A a g mk Y hp => ⟨hp.1, wtrans hZ Y.warmed, hp.2.1, hp.2.2.2.2⟩) (fun _ _ _ _ _ _ _ _ _ => trivial)
    (fun _ _ _ _ ⟨v, L, h1, h2, h3⟩ => ⟨L, _, _, h3, rfl, rfl, v, h1, h2⟩)
    (fun m meth c A a g mk v t L k n Y hp _ _ ⟨e1, e2, v', e3, e4⟩ => by cases e3; subst e1 e2; exact ⟨L, e4, rfl, rfl, rfl⟩)
/-- a static method that may intern -/
theorem r_callSW {h0 : Heap} {vm : Vm} {k0 : Nat} {idx : Nat} {y : MethodName} {bytes : ByteArray} {mL : Nat} {rt : Option FieldType} {rm : Room} {argsL : List Value} {V : Vm → Prop} {Q' : Option Value → Heap → Vm → Prop} {ps : List FieldType} {rr : Option FieldType} {W cells' slots' : Nat} {stk : List Value}
    (B : Wb l R Z own nm code maxL ret n0 h0 K) (D : Sn K vm k0) (hk0 : k0 ≤ h.size) (M : ConW l [] y bytes mL rt rm Z argsL.toArray h n0 V Q') (hV : ∀ vm', ((KS K).setVm vm).WarmedH vm' → V vm') (hd : decode code pc = .ok (.invokestatic idx, 3)) (hp : pc + 3 = pc') (v1 : (Jvm.Cond.methodLink own idx y).before a0 Z = true) (v2 : (Jvm.Cond.static y).before a0 Z = true) (v3 : (Jvm.Cond.initialized y.cls).before a0 Z = true) (v4 : (Jvm.Cond.code y bytes mL rt).before a0 Z = true)
    (hy : y.cls ≠ "java/lang/invoke/MethodHandle" ∧ y.cls ≠ "java/lang/invoke/VarHandle") (pd : parseMethodDescriptor y.desc = some ⟨ps, rr⟩) (hlen : argsL.length = ps.length) (hst : stk = argsL.reverse ++ st) (hsz : Ls.size = maxL) (hW : (st.map fun v => v.category).sum ≤ W)
    (hf : rm.frames + 1 ≤ R.frames) (hlo : W + (mL + 11) + rm.locals ≤ R.locals) (hc : cells + rm.cells ≤ R.cells) (hs : slots + rm.slots ≤ R.slots) (ec : cells + rm.cells = cells') (es : slots + rm.slots = slots')
    (r : ∀ v h' vm', Q' v h' vm' → h.size ≤ h'.size → Sn K vm' h'.size → Run l R n0 Q (Kw K (Fr n0) vm') h' cells' slots' pc' Ls (v.toList ++ st)) : Run l R n0 Q (Kw K (Fr n0) vm) h cells slots pc Ls stk := by
  obtain ⟨Pl, En, p, e, s, m, args, below, meth, c⟩ := K
  intro T locs X eT N
  obtain ⟨w1, w2, w3, w4, w5, w6, w7, w8, w9, w10⟩ := B
  have D' : s.Since vm k0 := D
  have hZ : Z.Warmed39 (s.setVm vm).vm := State.Warmed39.trans w2 D'.1
  have hown : (s.setVm vm).vm.findClass own = some m.cls := by rw [show (s.setVm vm).vm = vm from rfl, D'.1.alike.findClass]; exact w3
  have hx := w1
  subst hp hst ec es
  obtain ⟨v, _, ⟨T', L', k', n'⟩, -, X', hS, hgr, ⟨Lc, ⟨hQ, N'⟩, l', y', z'⟩, s'⟩ := callSS X hx (y := y) hown (mvT hZ v1) (mvT hZ v2) (mvT hZ v3) (mvT hZ v4) hy (ConW.back (W := W) M hZ v4 v3 hf hlo) (g := mkF m pc Ls (argsL.reverse ++ st)) rfl (by show Ls.size = _; rw [w5]; exact hsz) (argsL := argsL) (rest := st) (lenOf pd hlen) rfl (by show 2 * 0 + _ ≤ _; omega) (hb w4 hd) (fun vm₁ q => ⟨rfl, eT, hc, hs, hV vm₁ q⟩)
  dsimp only [Pt.U, Pt.locs, Pt.cells, Pt.slots] at X' hS hgr l' y' z' s' hQ N'
  subst l' y' z'
  have hk1 : k0 ≤ T.heap.size := by rw [eT]; exact hk0
  obtain ⟨s2, o, k1, k2⟩ := r v T'.heap T'.vm hQ (by rw [← eT]; exact hgr) (D'.trans hS (Nat.le_trans hk1 hgr)) T' _ X' rfl (Fr.app N N')
  exact ⟨s2, o, s'.trans k1, k2⟩
/-- a constructor that may intern -/
theorem r_callIW {h0 : Heap} {vm : Vm} {k0 : Nat} {idx : Nat} {y : MethodName} {a : Addr} {bytes : ByteArray} {mL : Nat} {rt : Option FieldType} {rm : Room} {argsL : List Value} {V : Vm → Prop} {Q' : Option Value → Heap → Vm → Prop} {ps : List FieldType} {rr : Option FieldType} {W cells' slots' : Nat} {stk : List Value}
    (B : Wb l R Z own nm code maxL ret n0 h0 K) (D : Sn K vm k0) (hk0 : k0 ≤ h.size) (M : ConW l [] y bytes mL none rm Z (.ref a :: argsL).toArray h n0 V Q') (hV : ∀ vm', ((KS K).setVm vm).WarmedH vm' → V vm') (hd : decode code pc = .ok (.invokespecial idx, 3)) (hp : pc + 3 = pc') (v1 : (Jvm.Cond.methodLink own idx y).before a0 Z = true) (v2 : (Jvm.Cond.instanceMethod y).before a0 Z = true) (v3 : (Jvm.Cond.initialized y.cls).before a0 Z = true) (v4 : (Jvm.Cond.code y bytes mL none).before a0 Z = true) (hin : y.name = "<init>")
    (hy : y.cls ≠ "java/lang/invoke/MethodHandle" ∧ y.cls ≠ "java/lang/invoke/VarHandle") (pd : parseMethodDescriptor y.desc = some ⟨ps, rr⟩) (hlen : argsL.length = ps.length) (hst : stk = argsL.reverse ++ .ref a :: st) (hsz : Ls.size = maxL) (hW : (st.map fun v => v.category).sum ≤ W)
    (hf : rm.frames + 1 ≤ R.frames) (hlo : W + (mL + 11) + rm.locals ≤ R.locals) (hc : cells + rm.cells ≤ R.cells) (hs : slots + rm.slots ≤ R.slots) (ec : cells + rm.cells = cells') (es : slots + rm.slots = slots')
    (r : ∀ v h' vm', Q' v h' vm' → h.size ≤ h'.size → Sn K vm' h'.size → Run l R n0 Q (Kw K (Fr n0) vm') h' cells' slots' pc' Ls (v.toList ++ st)) : Run l R n0 Q (Kw K (Fr n0) vm) h cells slots pc Ls stk := by
  obtain ⟨Pl, En, p, e, s, m, args, below, meth, c⟩ := K
  intro T locs X eT N
  obtain ⟨w1, w2, w3, w4, w5, w6, w7, w8, w9, w10⟩ := B
  have D' : s.Since vm k0 := D
  have hZ : Z.Warmed39 (s.setVm vm).vm := State.Warmed39.trans w2 D'.1
  have hown : (s.setVm vm).vm.findClass own = some m.cls := by rw [show (s.setVm vm).vm = vm from rfl, D'.1.alike.findClass]; exact w3
  have hx := w1
  subst hp hst ec es
  obtain ⟨v, _, ⟨T', L', k', n'⟩, -, X', hS, hgr, ⟨Lc, ⟨hQ, N'⟩, l', y', z'⟩, s'⟩ := X.specialBackS hx (y := y) hin hown (mvT hZ v1) (mvT hZ v2) (mvT hZ v4) hy (ConW.back (W := W) M hZ v4 v3 hf hlo) (g := mkF m pc Ls (argsL.reverse ++ .ref a :: st)) rfl (by show Ls.size = _; rw [w5]; exact hsz) (Steps.refl _) (a := a) (argsL := argsL) (rest := st) (lenOf pd hlen) rfl (by show 2 * 0 + _ ≤ _; omega) (hb w4 hd) (fun vm₁ q => ⟨rfl, eT, hc, hs, hV vm₁ q⟩)
  dsimp only [Pt.U, Pt.locs, Pt.cells, Pt.slots] at X' hS hgr l' y' z' s' hQ N'
  subst l' y' z'
  have hk1 : k0 ≤ T.heap.size := by rw [eT]; exact hk0
  obtain ⟨s2, o, k1, k2⟩ := r v T'.heap T'.vm hQ (by rw [← eT]; exact hgr) (D'.trans hS (Nat.le_trans hk1 hgr)) T' _ X' rfl (Fr.app N N')
  exact ⟨s2, o, s'.trans k1, k2⟩
/-- an instance method that may intern -/
theorem r_callVW {h0 : Heap} {vm : Vm} {k0 : Nat} {idx : Nat} {y z : MethodName} {Cn : String} {a : Addr} {bytes : ByteArray} {mL : Nat} {rt : Option FieldType} {rm : Room} {argsL : List Value} {V : Vm → Prop} {Q' : Option Value → Heap → Vm → Prop} {ps : List FieldType} {rr : Option FieldType} {W cells' slots' : Nat} {stk : List Value}
    (B : Wb l R Z own nm code maxL ret n0 h0 K) (D : Sn K vm k0) (hk0 : k0 ≤ h.size) (M : ConW l [] z bytes mL rt rm Z (.ref a :: argsL).toArray h n0 V Q') (E : Exa Z h a Cn) (hV : ∀ vm', ((KS K).setVm vm).WarmedH vm' → V vm') (hd : decode code pc = .ok (.invokevirtual idx, 3)) (hp : pc + 3 = pc') (v1 : (Jvm.Cond.methodLink own idx y).before a0 Z = true) (vd : (Jvm.Cond.declares y).before a0 Z = true) (nf : ∀ (s : State) (args : Array Value), Z.Warmed39 s.vm → NotFace s y) (vs : (Jvm.Cond.selects Cn y z).before a0 Z = true) (v2 : (Jvm.Cond.instanceMethod z).before a0 Z = true) (v3 : (Jvm.Cond.initialized z.cls).before a0 Z = true) (v4 : (Jvm.Cond.code z bytes mL rt).before a0 Z = true)
    (hy : y.cls ≠ "java/lang/invoke/MethodHandle" ∧ y.cls ≠ "java/lang/invoke/VarHandle") (pd : parseMethodDescriptor y.desc = some ⟨ps, rr⟩) (hlen : argsL.length = ps.length) (hst : stk = argsL.reverse ++ .ref a :: st) (hsz : Ls.size = maxL) (hW : (st.map fun v => v.category).sum ≤ W)
    (hf : rm.frames + 1 ≤ R.frames) (hlo : W + (mL + 11) + rm.locals ≤ R.locals) (hc : cells + rm.cells ≤ R.cells) (hs : slots + rm.slots ≤ R.slots) (ec : cells + rm.cells = cells') (es : slots + rm.slots = slots')
    (r : ∀ v h' vm', Q' v h' vm' → h.size ≤ h'.size → Sn K vm' h'.size → Run l R n0 Q (Kw K (Fr n0) vm') h' cells' slots' pc' Ls (v.toList ++ st)) : Run l R n0 Q (Kw K (Fr n0) vm) h cells slots pc Ls stk := by
  obtain ⟨Pl, En, p, e, s, m, args, below, meth, c⟩ := K
  intro T locs X eT N
  obtain ⟨w1, w2, w3, w4, w5, w6, w7, w8, w9, w10⟩ := B
  have D' : s.Since vm k0 := D
  have hZ : Z.Warmed39 (s.setVm vm).vm := State.Warmed39.trans w2 D'.1
  have hown : (s.setVm vm).vm.findClass own = some m.cls := by rw [show (s.setVm vm).vm = vm from rfl, D'.1.alike.findClass]; exact w3
  have hx := w1
  subst hp hst ec es
  obtain ⟨cq, kq, qa, qb, qc⟩ := isOf (T := T) hZ eT E
  obtain ⟨v, _, ⟨T', L', k', n'⟩, -, X', hS, hgr, ⟨Lc, ⟨hQ, N'⟩, l', y', z'⟩, s'⟩ := X.virtualBackS hx (y := y) (z := z) hown (mvT hZ v1) (mvT hZ vd) (nf (s.setVm vm) args hZ) (mvT hZ vs) (mvT hZ v2) hy (ConW.back (W := W) M hZ v4 v3 hf hlo) qa qc (g := mkF m pc Ls (argsL.reverse ++ .ref a :: st)) rfl (by show Ls.size = _; rw [w5]; exact hsz) (Steps.refl _) (argsL := argsL) (rest := st) (lenOf pd hlen) rfl (by show 2 * 0 + _ ≤ _; omega) (hb w4 hd) (fun vm₁ q => ⟨rfl, eT, hc, hs, hV vm₁ q⟩)
  dsimp only [Pt.U, Pt.locs, Pt.cells, Pt.slots] at X' hS hgr l' y' z' s' hQ N'
  subst l' y' z'
  have hk1 : k0 ≤ T.heap.size := by rw [eT]; exact hk0
  obtain ⟨s2, o, k1, k2⟩ := r v T'.heap T'.vm hQ (by rw [← eT]; exact hgr) (D'.trans hS (Nat.le_trans hk1 hgr)) T' _ X' rfl (Fr.app N N')
  exact ⟨s2, o, s'.trans k1, k2⟩
theorem r_return (C : Ctx l R Z own nm code maxL none fl n0 kz K) (hd : decode code pc = .ok (.return_, 1)) (hc : cells ≤ R.cells) (hs : slots ≤ R.slots) (hk : kz ≤ h.size) (q : ∀ vm, (KS K).WarmedH vm → Q none h vm) : Run l R n0 Q K h cells slots pc Ls [] := by
  obtain ⟨Pl, En, p, e, s, m, args, below, meth, c⟩ := K
  intro T locs X eT N
  obtain ⟨hx, hZ, hown, hby, hml, hret, hnm, hlk, hcl, hfr, hen⟩ := C
  obtain ⟨fs, hr, hrun, hended, hW, hsame⟩ := X.leave (v := none) (fun _ => rfl)
  exact ⟨_, _, X.returnOut hx hret (hb hby hd) hr, hrun, hended, none, locs, rfl, ⟨by show Q none T.heap _; rw [eT]; exact q _ hW, hfr _ N⟩, hen _ _ _ (by show kz ≤ T.heap.size; rw [eT]; exact hk) hW (hsame.mono hc hs)⟩
theorem r_ret {t : FieldType} (C : Ctx l R Z own nm code maxL (some t) fl n0 kz K) {i : Instr} {v : Value} (hd : decode code pc = .ok (i, 1)) (hn : narrow t v = v)
    (hi : (i = .ireturn ∧ (t = .int ∨ t = .boolean ∨ t = .byte ∨ t = .char ∨ t = .short) ∧ ∃ z, v = .int z) ∨ (i = .lreturn ∧ t = .long ∧ ∃ z, v = .long z) ∨ (i = .dreturn ∧ t = .double ∧ ∃ z, v = .double z) ∨ (i = .freturn ∧ t = .float ∧ ∃ z, v = .float z) ∨ (i = .areturn ∧ t.isReference = true ∧ v.isRef = true))
    (hc : cells ≤ R.cells) (hs : slots ≤ R.slots) (hk : kz ≤ h.size) (q : ∀ vm, (KS K).WarmedH vm → Q (some v) h vm) : Run l R n0 Q K h cells slots pc Ls (v :: st) := by
  obtain ⟨Pl, En, p, e, s, m, args, below, meth, c⟩ := K
  intro T locs X eT N
  obtain ⟨hx, hZ, hown, hby, hml, hret, hnm, hlk, hcl, hfr, hen⟩ := C
  obtain ⟨fs, hr, hrun, hended, hW, hsame⟩ := X.leave (v := some v) (fun hh => by rw [hret] at hh; cases hh)
  exact ⟨_, _, retOut X hx hret hn hi (hb hby hd) hr, hrun, hended, some v, locs, rfl, ⟨by show Q (some v) T.heap _; rw [eT]; exact q _ hW, hfr _ N⟩, hen _ _ _ (by show kz ≤ T.heap.size; rw [eT]; exact hk) hW (hsame.mono hc hs)⟩
theorem r_ireturn (C : Ctx l R Z own nm code maxL (some .int) fl n0 kz K) {x : Int32} (hd : decode code pc = .ok (.ireturn, 1)) (hc : cells ≤ R.cells) (hs : slots ≤ R.slots) (hk : kz ≤ h.size) (q : ∀ vm, (KS K).WarmedH vm → Q (some (.int x)) h vm) : Run l R n0 Q K h cells slots pc Ls (.int x :: st) :=
  r_ret C hd rfl (Or.inl ⟨rfl, Or.inl rfl, _, rfl⟩) hc hs hk q
theorem r_zreturn (C : Ctx l R Z own nm code maxL (some .boolean) fl n0 kz K) {x : Int32} (hd : decode code pc = .ok (.ireturn, 1)) (hn : narrow .boolean (.int x) = .int x) (hc : cells ≤ R.cells) (hs : slots ≤ R.slots) (hk : kz ≤ h.size) (q : ∀ vm, (KS K).WarmedH vm → Q (some (.int x)) h vm) : Run l R n0 Q K h cells slots pc Ls (.int x :: st) :=
  r_ret C hd hn (Or.inl ⟨rfl, Or.inr (Or.inl rfl), _, rfl⟩) hc hs hk q
theorem r_creturn (C : Ctx l R Z own nm code maxL (some .char) fl n0 kz K) {x : Int32} (hd : decode code pc = .ok (.ireturn, 1)) (hn : narrow .char (.int x) = .int x) (hc : cells ≤ R.cells) (hs : slots ≤ R.slots) (hk : kz ≤ h.size) (q : ∀ vm, (KS K).WarmedH vm → Q (some (.int x)) h vm) : Run l R n0 Q K h cells slots pc Ls (.int x :: st) :=
  r_ret C hd hn (Or.inl ⟨rfl, Or.inr (Or.inr (Or.inr (Or.inl rfl))), _, rfl⟩) hc hs hk q
theorem r_breturn (C : Ctx l R Z own nm code maxL (some .byte) fl n0 kz K) {x : Int32} (hd : decode code pc = .ok (.ireturn, 1)) (hn : narrow .byte (.int x) = .int x) (hc : cells ≤ R.cells) (hs : slots ≤ R.slots) (hk : kz ≤ h.size) (q : ∀ vm, (KS K).WarmedH vm → Q (some (.int x)) h vm) : Run l R n0 Q K h cells slots pc Ls (.int x :: st) :=
  r_ret C hd hn (Or.inl ⟨rfl, Or.inr (Or.inr (Or.inl rfl)), _, rfl⟩) hc hs hk q
theorem r_lreturn (C : Ctx l R Z own nm code maxL (some .long) fl n0 kz K) {x : Int64} (hd : decode code pc = .ok (.lreturn, 1)) (hc : cells ≤ R.cells) (hs : slots ≤ R.slots) (hk : kz ≤ h.size) (q : ∀ vm, (KS K).WarmedH vm → Q (some (.long x)) h vm) : Run l R n0 Q K h cells slots pc Ls (.long x :: st) :=
  r_ret C hd rfl (Or.inr (Or.inl ⟨rfl, rfl, _, rfl⟩)) hc hs hk q
theorem r_areturn {t : FieldType} (C : Ctx l R Z own nm code maxL (some t) fl n0 kz K) {v : Value} (hd : decode code pc = .ok (.areturn, 1)) (ht : t.isReference = true) (hv : v.isRef = true) (hc : cells ≤ R.cells) (hs : slots ≤ R.slots) (hk : kz ≤ h.size) (q : ∀ vm, (KS K).WarmedH vm → Q (some v) h vm) : Run l R n0 Q K h cells slots pc Ls (v :: st) :=
  r_ret C hd (by rcases ref_cases hv with rfl | ⟨z, rfl⟩ <;> cases t <;> first | rfl | (cases ht; done)) (Or.inr (Or.inr (Or.inr (Or.inr ⟨rfl, ht, hv⟩)))) hc hs hk q
end
abbrev i64 (n : Nat) : Int64 := Int64.ofNat n
theorem i64_toInt {n : Nat} (h : n < 9223372036854775808) : (i64 n).toInt = (n : Int) := Int64.toInt_ofNat_of_lt h
theorem i64_lt {a b : Nat} (ha : a < 9223372036854775808) (hb : b < 9223372036854775808) : i64 a < i64 b ↔ a < b := by
  rw [Int64.lt_iff_toInt_lt, i64_toInt ha, i64_toInt hb]; omega
theorem i64_eq {a b : Nat} (ha : a < 9223372036854775808) (hb : b < 9223372036854775808) : i64 a = i64 b ↔ a = b := by
  rw [← Int64.toInt_inj, i64_toInt ha, i64_toInt hb]; omega
theorem i64_add (a b : Nat) : i64 a + i64 b = i64 (a + b) := (Int64.ofNat_add a b).symm
theorem i64_mul (a b : Nat) : i64 a * i64 b = i64 (a * b) := (Int64.ofNat_mul a b).symm
theorem i64_sub {a b : Nat} (h : b ≤ a) : i64 a - i64 b = i64 (a - b) := by
  have e : i64 a = i64 (a - b) + i64 b := by rw [i64_add]; congr 1; omega
  rw [e, Int64.add_sub_cancel]
theorem i64_div {a b : Nat} (ha : a < 9223372036854775808) (hb : b < 9223372036854775808) : i64 a / i64 b = i64 (a / b) := by
  apply Int64.toInt_inj.mp
  have hq : a / b < 9223372036854775808 := Nat.lt_of_le_of_lt (Nat.div_le_self a b) ha
  rw [Int64.toInt_div, i64_toInt ha, i64_toInt hb, i64_toInt hq, Int.tdiv_eq_ediv_of_nonneg (by omega)]
  have e : (a : Int) / (b : Int) = ((a / b : Nat) : Int) := rfl
  rw [e]; exact Int.bmod_eq_of_le (by have := Int.natCast_nonneg (a / b); omega) (by omega)
theorem i64_rem {a b : Nat} (ha : a < 9223372036854775808) (hb : b < 9223372036854775808) : i64 a - (i64 a / i64 b) * i64 b = i64 (a % b) := by
  rw [i64_div ha hb, i64_mul, i64_sub (Nat.div_mul_le_self a b)]
  congr 1
  have := Nat.div_add_mod a b
  rw [Nat.mul_comm] at this; omega
theorem i64_of32 {n : Nat} (h : n < 2147483648) : (i32 n).toInt64 = i64 n := by
  rw [← Int64.toInt_inj, Int32.toInt_toInt64, i32_toInt h, i64_toInt (by omega)]
theorem i32_of64 {n : Nat} : (i64 n).toInt32 = i32 n := Int64.toInt32_ofNat
theorem i64_and (x : Int64) : ∃ n, n < 9223372036854775808 ∧ x &&& 9223372036854775807 = i64 n := by
  have h : (x &&& 9223372036854775807).toBitVec.toNat ≤ 9223372036854775807 := by
    rw [Int64.toBitVec_and, BitVec.toNat_and]; exact Nat.and_le_right
  refine ⟨(x &&& 9223372036854775807).toBitVec.toNat, by omega, ?_⟩
  apply Int64.toBitVec_inj.mp
  apply BitVec.eq_of_toNat_eq
  show _ = _ % 2 ^ 64
  omega
theorem i32_and (x : Int32) : ∃ n, n < 2147483648 ∧ x &&& 2147483647 = i32 n := by
  have h : (x &&& 2147483647).toBitVec.toNat ≤ 2147483647 := by
    rw [Int32.toBitVec_and, BitVec.toNat_and]; exact Nat.and_le_right
  refine ⟨(x &&& 2147483647).toBitVec.toNat, by omega, ?_⟩
  apply Int32.toBitVec_inj.mp
  apply BitVec.eq_of_toNat_eq
  show _ = _ % 2 ^ 32
  omega
def by8 (c : Nat) : Int32 := (i32 c).toInt8.toInt32
abbrev ch16 (x : Int32) : Int32 := x.toUInt32.toUInt16.toUInt32.toInt32
theorem own_byF : ∀ c : Fin 256, (by8 c &&& 255).toUInt32.toUInt16.toUInt32.toInt32 = i32 c := by decide +kernel
theorem own_byte {c : Nat} (h : c < 256) : (by8 c &&& 255).toUInt32.toUInt16.toUInt32.toInt32 = i32 c := own_byF ⟨c, h⟩
theorem own_ch {c : Nat} (h : c < 65536) : (i32 c).toUInt32.toUInt16.toUInt32.toInt32 = i32 c := by
  apply Int32.toBitVec_inj.mp
  apply BitVec.eq_of_toNat_eq
  show ((UInt32.ofNat c).toUInt16.toUInt32).toNat = c % 2 ^ 32
  rw [UInt16.toNat_toUInt32, UInt32.toNat_toUInt16]
  show c % 2 ^ 32 % 2 ^ 16 = c % 2 ^ 32
  omega
theorem own_chn {c : Nat} (h : c < 65536) : nar .char (i32 c) = i32 c := own_ch h
theorem own_shr0 (x : Int32) : x >>> ((0 : Int32) &&& 31) = x := by
  show x >>> (0 : Int32) = x
  simp
theorem own_narF : ∀ c : Fin 65536, narrow .char (.int (i32 c)) = .int (i32 c) := fun c => by
  show Value.int ((i32 c).toUInt32.toUInt16.toUInt32.toInt32) = _
  rw [own_ch c.2]
theorem own_bynar (c : Nat) : nar .byte (by8 c) = by8 c := by
  show (by8 c).toInt8.toInt32 = _
  simp [by8]
theorem own_coder0 (n : Nat) : (XT.ushr (i32 n - i32 n) 31).toInt8.toInt32 = 0 := by
  rw [Int32.sub_self]; decide
/-- the statics that Strings read -/
def own_SS (Z : State) (cc : Int32) (fv : Value) : Prop := Sta Z Z.heap "java/lang/String" "COMPACT_STRINGS" "Z" (.int cc) ∧ cc ≠ 0 ∧ Sta Z Z.heap "jdk/internal/util/Preconditions" "SIOOBE_FORMATTER" "Ljava/util/function/BiFunction;" fv ∧ fv.isRef = true
/-- a Latin-1 String of these signs -/
abbrev St (Z : State) (h : Heap) (a b : Nat) (k : ClassId) (cs : List Nat) : Prop := Str Z h a b k (cs.map by8)
def vch (c : Nat) : Value := .int (i32 c)
theorem own_bget {cs : List Nat} {i c : Nat} (h : cs[i]? = some c) : ((cs.map by8).map Value.int)[i]? = some (.int (by8 c)) := by simp [h]
theorem own_cget {cs : List Nat} {i c : Nat} (h : cs[i]? = some c) : (cs.map vch)[i]? = some (.int (i32 c)) := by simp [h, vch]
theorem own_blen (cs : List Nat) : ((cs.map by8).map Value.int).length = cs.length := by simp
theorem own_clen (cs : List Nat) : (cs.map vch).length = cs.length := by simp
theorem own_tset {α : Type} (ws : List α) (i : Nat) (x : α) (h : i < ws.length) : (ws.set i x).take (i + 1) = ws.take i ++ [x] := by
  apply List.ext_getElem?
  intro j
  by_cases hj : j < i
  · rw [List.getElem?_take_of_lt (by omega), List.getElem?_set_ne (by omega), List.getElem?_append_left (by rw [List.length_take]; omega), List.getElem?_take_of_lt hj]
  · by_cases e : j = i
    · subst e
      rw [List.getElem?_take_of_lt (by omega), List.getElem?_set_self h, List.getElem?_append_right (by rw [List.length_take]; omega)]
      simp [List.length_take, Nat.min_eq_left (Nat.le_of_lt h)]
    · rw [List.getElem?_eq_none (by rw [List.length_take, List.length_set]; omega), List.getElem?_eq_none (by simp [List.length_take]; omega)]
theorem own_take1 {α : Type} {ws : List α} {i : Nat} {x : α} (h : ws[i]? = some x) : ws.take (i + 1) = ws.take i ++ [x] := by
  rw [List.take_add_one, h]; rfl
theorem own_drop1 {α : Type} {ws : List α} {i : Nat} {x : α} (h : ws[i]? = some x) : ws.drop i = x :: ws.drop (i + 1) := by
  obtain ⟨q, rfl⟩ := List.getElem?_eq_some_iff.mp h
  exact List.drop_eq_getElem_cons q
theorem Fld.inj {Z : State} {h : Heap} {a : Addr} {C n d : String} {v v' : Value} (F : Fld Z h a C n d v) (G : Fld Z h a C n d v') : v = v' := by
  obtain ⟨c1, cf1, k1, i1, f1, p1, p2, -, -, -, -, p3⟩ := F
  obtain ⟨c2, cf2, k2, i2, f2, q1, q2, -, -, -, -, q3⟩ := G
  rw [p1] at q1; cases q1
  rw [p2] at q2; cases q2
  rw [p3] at q3; exact Option.some.inj q3
theorem IB.at {Z : State} {K : Kx} {Pl : List Loc → Prop} {vm vm' : Vm} {Ts : List String} (I : IB Z vm Ts) (hW : (KS (Kw K Pl vm)).WarmedH vm') : IB Z vm' Ts := IB.warm I (s := KS K) (by rw [← KS_Kw (Pl := Pl)]; exact hW)
theorem IB.mono {Z : State} {vm : Vm} {Ts Ts' : List String} (I : IB Z vm Ts) (q : ∀ t ∈ Ts, t ∈ Ts') : IB Z vm Ts' := by
  obtain ⟨more, e, hm⟩ := I
  exact ⟨more, e, fun x hx => by obtain ⟨t, h1, h2⟩ := hm x hx; exact ⟨t, q t h1, h2⟩⟩
theorem Lit.at {Z : State} {K : Kx} {Pl : List Loc → Prop} {vm vm' : Vm} {cn : String} {i : Nat} {a : Addr} (L : Lit (Z.setVm vm) cn i a) (hW : (KS (Kw K Pl vm)).WarmedH vm') : Lit (Z.setVm vm') cn i a := Lit.warm L (s := KS K) (by rw [← KS_Kw (Pl := Pl)]; exact hW)
theorem i32_and255 (x : Int32) : ∃ n, n < 256 ∧ x &&& 255 = i32 n := by
  have h : (x &&& 255).toBitVec.toNat ≤ 255 := by
    rw [Int32.toBitVec_and, BitVec.toNat_and]; exact Nat.and_le_right
  refine ⟨(x &&& 255).toBitVec.toNat, by omega, ?_⟩
  apply Int32.toBitVec_inj.mp
  apply BitVec.eq_of_toNat_eq
  show _ = _ % 2 ^ 32
  omega
theorem by8_inj {c d : Nat} (hc : c < 256) (hd : d < 256) : by8 c = by8 d ↔ c = d := by
  constructor
  · intro e
    have h1 := own_byte hc
    rw [e, own_byte hd] at h1
    exact ((i32_eq (by omega) (by omega)).mp h1).symm
  · intro e; rw [e]
/-! UTF-16 Strings -/
def by16 (us : List Nat) : List Int32 := us.flatMap (fun c => [by8 c, by8 (c / 256)])
def US (Z : State) (h : Heap) (a b : Nat) (k : ClassId) (us : List Nat) : Prop := Exa Z h a "java/lang/String" ∧ Fld Z h a "java/lang/String" "coder" "B" (.int 1) ∧ Fld Z h a "java/lang/String" "value" "[B" (.ref b) ∧ AV Z h b k .byte ((by16 us).map Value.int) (.int 0)
theorem US.ext {Z : State} {h h' : Heap} {a b : Nat} {k : ClassId} {us : List Nat} (F : US Z h a b k us) (E : Ext h h') : US Z h' a b k us := ⟨F.1.ext E, F.2.1.ext E, F.2.2.1.ext E, F.2.2.2.ext E⟩
theorem US.keep {Z : State} {h h' : Heap} {a b : Nat} {k : ClassId} {us : List Nat} {ws : List Addr} (F : US Z h a b k us) (Kp : Keep h h' ws) (q1 : a ∉ ws) (q2 : b ∉ ws) : US Z h' a b k us := ⟨F.1.keep Kp, F.2.1.keep Kp q1, F.2.2.1.keep Kp q1, F.2.2.2.keep Kp q2⟩
def GS (Z : State) (h : Heap) (a b : Nat) (k : ClassId) (us : List Nat) : Prop := (St Z h a b k us ∧ ∀ c ∈ us, c < 256) ∨ (US Z h a b k us ∧ ∀ c ∈ us, c < 65536)
theorem GS.ext {Z : State} {h h' : Heap} {a b : Nat} {k : ClassId} {us : List Nat} (F : GS Z h a b k us) (E : Ext h h') : GS Z h' a b k us := F.elim (fun x => Or.inl ⟨x.1.ext E, x.2⟩) (fun x => Or.inr ⟨x.1.ext E, x.2⟩)
theorem GS.keep {Z : State} {h h' : Heap} {a b : Nat} {k : ClassId} {us : List Nat} {ws : List Addr} (F : GS Z h a b k us) (Kp : Keep h h' ws) (q1 : a ∉ ws) (q2 : b ∉ ws) : GS Z h' a b k us := F.elim (fun x => Or.inl ⟨x.1.keep Kp q1 q2, x.2⟩) (fun x => Or.inr ⟨x.1.keep Kp q1 q2, x.2⟩)
theorem GS.exa {Z : State} {h : Heap} {a b : Nat} {k : ClassId} {us : List Nat} (F : GS Z h a b k us) : Exa Z h a "java/lang/String" := F.elim (fun x => x.1.1) (fun x => x.1.1)
theorem GS.lt {Z : State} {h : Heap} {a b : Nat} {k : ClassId} {us : List Nat} (F : GS Z h a b k us) : a < h.size ∧ b < h.size := F.elim (fun x => ⟨exaLt x.1.1, x.1.2.2.2.lt⟩) (fun x => ⟨exaLt x.1.1, x.1.2.2.2.lt⟩)
theorem by16_len (us : List Nat) : ((by16 us).map Value.int).length = 2 * us.length := by
  rw [List.length_map, by16]
  induction us with
  | nil => rfl
  | cons c us ih => rw [List.flatMap_cons, List.length_append, ih]; simp; omega
theorem by16_get : ∀ (us : List Nat) (i c : Nat), us[i]? = some c → (by16 us)[2 * i]? = some (by8 c) ∧ (by16 us)[2 * i + 1]? = some (by8 (c / 256))
  | [], i, c, h => by simp at h
  | u :: us, 0, c, h => by
    simp at h; subst h; exact ⟨rfl, rfl⟩
  | u :: us, i + 1, c, h => by
    have h' : us[i]? = some c := by simpa using h
    have ih := by16_get us i c h'
    have e : by16 (u :: us) = by8 u :: by8 (u / 256) :: by16 us := rfl
    rw [e, show 2 * (i + 1) = 2 * i + 1 + 1 from by omega]
    exact ⟨by simpa using ih.1, by simpa using ih.2⟩
theorem own_uget0 {us : List Nat} {i c : Nat} (h : us[i]? = some c) : ((by16 us).map Value.int)[2 * i]? = some (.int (by8 c)) := by rw [List.getElem?_map, (by16_get us i c h).1]; rfl
theorem own_uget1 {us : List Nat} {i c : Nat} (h : us[i]? = some c) : ((by16 us).map Value.int)[2 * i + 1]? = some (.int (by8 (c / 256))) := by rw [List.getElem?_map, (by16_get us i c h).2]; rfl
theorem by8_mod (c : Nat) : by8 c = by8 (c % 256) := by
  have e : (i32 c).toInt8 = (i32 (c % 256)).toInt8 := by
    show (Int32.ofNat c).toInt8 = (Int32.ofNat (c % 256)).toInt8
    rw [Int32.toInt8_ofNat', Int32.toInt8_ofNat']
    apply Int8.toBitVec_inj.mp
    apply BitVec.eq_of_toNat_eq
    show c % 2 ^ 8 = (c % 256) % 2 ^ 8
    omega
  unfold by8; rw [e]
theorem by8_255F : ∀ c : Fin 256, by8 c &&& 255 = i32 c := by decide +kernel
theorem by8_255 (c : Nat) : by8 c &&& 255 = i32 (c % 256) := by
  rw [by8_mod]; exact by8_255F ⟨c % 256, by omega⟩
theorem own_glue {c : Nat} (h : c < 65536) : (i32 (c % 256) <<< ((0 : Int32) &&& 31)) ||| (i32 (c / 256 % 256) <<< ((8 : Int32) &&& 31)) = i32 c := by
  have e : ∀ a b : Nat, a < 256 → b < 256 → (i32 a <<< ((0 : Int32) &&& 31)) ||| (i32 b <<< ((8 : Int32) &&& 31)) = i32 (a + 256 * b) := by
    intro a b ha hb
    apply Int32.toBitVec_inj.mp
    apply BitVec.eq_of_toNat_eq
    show ((a % 2 ^ 32) <<< 0 % 2 ^ 32) ||| ((b % 2 ^ 32) <<< 8 % 2 ^ 32) = (a + 256 * b) % 2 ^ 32
    have e1 : (a % 2 ^ 32) <<< 0 % 2 ^ 32 = a := by rw [Nat.shiftLeft_eq]; omega
    have e2 : (b % 2 ^ 32) <<< 8 % 2 ^ 32 = b <<< 8 := by rw [Nat.shiftLeft_eq, Nat.shiftLeft_eq]; omega
    rw [e1, e2, Nat.or_comm, ← Nat.shiftLeft_add_eq_or_of_lt (by omega : a < 2 ^ 8), Nat.shiftLeft_eq]; omega
  rw [e _ _ (by omega) (by omega)]; congr 1; omega
theorem own_shl1 {n : Nat} (h : n < 1073741824) : i32 n <<< ((1 : Int32) &&& 31) = i32 (2 * n) := by
  apply Int32.toBitVec_inj.mp
  apply BitVec.eq_of_toNat_eq
  show (n % 2 ^ 32) <<< 1 % 2 ^ 32 = (2 * n) % 2 ^ 32
  rw [Nat.shiftLeft_eq]; omega
theorem own_sshr {n k : Nat} (h : n < 2147483648) : BitVec.sshiftRight (BitVec.ofNat 32 n) k = BitVec.ofNat 32 (n / 2 ^ k) := by
  have hm : (BitVec.ofNat 32 n).msb = false := by
    rw [BitVec.msb_eq_decide]; simp; omega
  rw [BitVec.sshiftRight_eq_of_msb_false hm]
  apply BitVec.eq_of_toNat_eq
  rw [BitVec.toNat_ushiftRight, Nat.shiftRight_eq_div_pow]
  show n % 2 ^ 32 / 2 ^ k = (n / 2 ^ k) % 2 ^ 32
  have hq : n / 2 ^ k ≤ n := Nat.div_le_self _ _
  rw [Nat.mod_eq_of_lt (by omega), Nat.mod_eq_of_lt (by omega)]
theorem own_shr1 {n : Nat} (h : n < 1073741824) : i32 (2 * n) >>> ((1 : Int32) &&& 31) = i32 n := by
  apply Int32.toBitVec_inj.mp
  show BitVec.sshiftRight (BitVec.ofNat 32 (2 * n)) 1 = BitVec.ofNat 32 n
  rw [own_sshr (by omega)]; congr 1; omega
theorem own_shr8 {n : Nat} (h : n < 2147483648) : i32 n >>> ((8 : Int32) &&& 31) = i32 (n / 256) := by
  apply Int32.toBitVec_inj.mp
  show BitVec.sshiftRight (BitVec.ofNat 32 n) 8 = BitVec.ofNat 32 (n / 256)
  rw [own_sshr h]
theorem own_coder1F : ∀ n : Fin 64, 0 < n.val → (XT.ushr (i32 n - i32 (2 * n)) 31).toInt8.toInt32 = 1 := by decide +kernel
theorem own_coder1 {n : Nat} (h : 0 < n) (h2 : n < 64) : (XT.ushr (i32 n - i32 (2 * n)) 31).toInt8.toInt32 = 1 := own_coder1F ⟨n, h2⟩ h
theorem i32_andm (x : Int32) (m : Nat) (hm : m < 2147483648) : ∃ n, n ≤ m ∧ x &&& i32 m = i32 n := by
  have h : (x &&& i32 m).toBitVec.toNat ≤ m := by
    rw [Int32.toBitVec_and, BitVec.toNat_and]
    refine Nat.le_trans Nat.and_le_right ?_
    show m % 2 ^ 32 ≤ m; omega
  refine ⟨(x &&& i32 m).toBitVec.toNat, h, ?_⟩
  apply Int32.toBitVec_inj.mp
  apply BitVec.eq_of_toNat_eq
  show _ = _ % 2 ^ 32
  omega
/-- the empty constant of String's own pool: not yet loaded, or loaded -/
def EE (Z : State) (h : Heap) (vm : Vm) : Prop := IB Z vm [] ∨ (IB Z vm [""] ∧ ∃ (lt lb : Nat) (lk : ClassId), Lit (Z.setVm vm) "java/lang/String" 7 lt ∧ Str Z h lt lb lk [])
theorem EE.keep {Z : State} {h h' : Heap} {vm : Vm} (E : EE Z h vm) (Kp : Keep h h' []) : EE Z h' vm := E.elim Or.inl (fun ⟨i, lt, lb, lk, l, t⟩ => Or.inr ⟨i, lt, lb, lk, l, t.keep Kp nin0 nin0⟩)
theorem EE.warm {Z s : State} {h : Heap} {vm vm' : Vm} (E : EE Z h vm) (hW : (s.setVm vm).WarmedH vm') : EE Z h vm' := E.elim (fun i => Or.inl (IB.warm i hW)) (fun ⟨i, lt, lb, lk, l, t⟩ => Or.inr ⟨IB.warm i hW, lt, lb, lk, Lit.warm l hW, t⟩)
theorem EE.at {Z : State} {K : Kx} {Pl : List Loc → Prop} {h : Heap} {vm vm' : Vm} (E : EE Z h vm) (hW : (KS (Kw K Pl vm)).WarmedH vm') : EE Z h vm' := EE.warm (s := KS K) E (by rw [← KS_Kw (Pl := Pl)]; exact hW)
theorem EE.ib {Z : State} {h : Heap} {vm : Vm} (E : EE Z h vm) : IB Z vm [""] := E.elim (fun i => IB.mono i (by simp)) (fun x => x.1)
def own_SU (Z : State) : Prop := Sta Z Z.heap "java/lang/StringUTF16" "$assertionsDisabled" "Z" (.int 1) ∧ Sta Z Z.heap "java/lang/StringUTF16" "HI_BYTE_SHIFT" "I" (.int 0) ∧ Sta Z Z.heap "java/lang/StringUTF16" "LO_BYTE_SHIFT" "I" (.int 8)
/-- System.arraycopy of a whole range of bytes (or of another plain kind) -/
theorem r_copy {l : Launch} {R : Room} {Z : State} {own nm : String} {code : ByteArray} {maxL : Nat} {ret : Option FieldType} {K : Kx} {n0 kz : Nat} {Q : Option Value → Heap → Vm → Prop} {h : Heap} {cells slots pc pc' : Nat} {Ls : Array Slot} {st : List Value} {a0 : Array Value} (C : Ctx l R Z own nm code maxL ret true n0 kz K) {idx : Nat} {a b : Addr} {k k' : ClassId} {ty : FieldType} {vs vd : List Value} {dv dd : Value} {sp dp n : Nat} {js jd jn : Int32} {W : Nat}
    (hd : decode code pc = .ok (.invokestatic idx, 3)) (hp : pc + 3 = pc') (w1 : (Jvm.Cond.methodLink own idx Jvm.Stand.acN).before a0 Z = true) (w2 : (Jvm.Cond.native Jvm.Stand.acN).before a0 Z = true) (w3 : (Jvm.Cond.static Jvm.Stand.acN).before a0 Z = true) (w4 : (Jvm.Cond.initialized "java/lang/System").before a0 Z = true) (A : AV Z h a k ty vs dv) (B : AV Z h b k' ty vd dd) (hr : refKind ty = false) (ejs : js = i32 sp) (ejd : jd = i32 dp) (ejn : jn = i32 n) (h4 : sp + n ≤ vs.length) (h5 : dp + n ≤ vd.length) (ge : n0 ≤ b) (hsz : Ls.size = maxL) (hf : 1 ≤ R.frames) (hW : (st.map fun v => v.category).sum ≤ W) (hlo : W + (nativeFrameWords "java/lang/System" "arraycopy" 5 + 11) ≤ R.locals)
    (r : ∀ h', Keep h h' [b] → AV Z h' b k' ty (vd.take dp ++ (vs.drop sp).take n ++ vd.drop (dp + n)) dd → Run l R n0 Q K h' cells slots pc' Ls st) : Run l R n0 Q K h cells slots pc Ls (.int jn :: .int jd :: .ref b :: .int js :: .ref a :: st) := by
  obtain ⟨Pl, En, p, e, s, m, args, below, meth, c⟩ := K
  intro T locs X eT N
  obtain ⟨hx, hZ, hown, hby, hml, -, hnm, -, hcl, hfr, -⟩ := C
  subst hp ejs ejd ejn
  have la := A.2
  have lb := B.2
  have c1 := i32_clamp (n := sp) (by omega)
  have c2 := i32_clamp (n := dp) (by omega)
  have c3 := i32_clamp (n := n) (by omega)
  have c4 := i32_clamp la
  have c5 := i32_clamp lb
  obtain ⟨T', h', L, X', eT', N', Kp, B', stp⟩ := cpA (W := W) X hx hZ hown w1 w2 w3 w4 eT A.1 B.1 (us := (vs.drop sp).take n) (Or.inl ⟨rfl, hr⟩) (i32_nn (n := sp) (by omega)) (i32_nn (n := dp) (by omega)) (i32_nn (n := n) (by omega)) (by rw [c1, c3, c4]; exact h4) (by rw [c2, c3, c5]; exact h5)
    (by
      rw [c1, c3]
      apply List.ext_getElem?
      intro i
      by_cases hi : i < n
      · rw [List.getElem?_take_of_lt hi, List.getElem?_drop, List.getElem?_map, List.getElem?_range hi]
        have : sp + i < vs.length := by omega
        simp [List.getD_eq_getElem?_getD, this]
      · rw [List.getElem?_eq_none (by rw [List.length_take]; omega), List.getElem?_eq_none (by simp; omega)]) (by rw [c2, c3]; exact h5) (hfr _ N) ge (g := mkF m pc Ls (.int (i32 n) :: .int (i32 dp) :: .ref b :: .int (i32 sp) :: .ref a :: st)) rfl (by show Ls.size = _; rw [hml]; exact hsz) rfl (hb hby hd) hf (by show 2 * 0 + _ ≤ _; omega) hlo
  rw [c2, c3] at B'
  have el : (vd.take dp ++ (vs.drop sp).take n ++ vd.drop (dp + n)).length = vd.length := by
    simp only [List.length_append, List.length_take, List.length_drop]; omega
  obtain ⟨s2, o, k1, k2⟩ := r h' Kp ⟨by rw [el]; exact B', by rw [el]; exact lb⟩ T' L X' eT' (hcl rfl _ N')
  exact ⟨s2, o, stp _ k1, k2⟩
/-- what stood at the start is as it was; what is written lies at n0 or above -/
def Od (Z : State) (n0 : Nat) (h : Heap) : Prop := Z.heap.size ≤ n0 ∧ Ext Z.heap h
theorem Od.start (s : State) : Od s s.heap.size s.heap := ⟨Nat.le_refl _, Nat.le_refl _, fun _ _ q => q⟩
theorem Od.ext {Z : State} {n0 : Nat} {h h' : Heap} (X : Od Z n0 h) (E : Ext h h') : Od Z n0 h' := ⟨X.1, Nat.le_trans X.2.1 E.1, fun x c q => E.2 x c (X.2.2 x c q)⟩
theorem Od.keep {Z : State} {n0 : Nat} {h h' : Heap} {ws : List Addr} (X : Od Z n0 h) (K : Keep h h' ws) (q : ∀ x ∈ ws, n0 ≤ x) : Od Z n0 h' := ⟨X.1, Nat.le_trans X.2.1 K.1, fun x c r => K.2.1 x c (X.2.2 x c r) fun z => absurd (Nat.lt_of_lt_of_le (Array.getElem?_eq_some_iff.mp r).1 X.1) (Nat.not_lt.mpr (q x z))⟩
theorem Od.wr {Z : State} {n0 : Nat} {h h' : Heap} {a : Addr} {sl : Nat} {v : Value} (X : Od Z n0 h) (W : Wr h h' a sl v) (q : n0 ≤ a) : Od Z n0 h' := X.keep (Keep.of_wr W) (allS q all0)
theorem Od.up {Z : State} {n0 n1 : Nat} {h : Heap} (X : Od Z n0 h) (q : n0 ≤ n1) : Od Z n1 h := ⟨Nat.le_trans X.1 q, X.2⟩
/-- a body that writes above n1 alone, where n0 is asked -/
theorem ConW.down {l : Launch} {ws : List Jvm.Cond} {y : MethodName} {code : ByteArray} {maxL : Nat} {ret : Option FieldType} {R : Room} {Z : State} {as : Array Value} {h : Heap} {n0 n1 : Nat} {V : Vm → Prop} {Q : Option Value → Heap → Vm → Prop} (r : ConW l ws y code maxL ret R Z as h n1 V Q) (q : n0 ≤ n1) : ConW l ws y code maxL ret R Z as h n0 V Q := by
  intro p e a1 a2 a3 s m args below a4 a5 a6 a7
  obtain ⟨s2, o, k1, k2, k3, v, L, k4, ⟨k5, k6⟩, k7⟩ := r p e a1 a2 a3 s m args below a4 a5 a6 a7
  exact ⟨s2, o, k1, k2, k3, v, L, k4, ⟨k5, fun y hy => Nat.le_trans q (k6 y hy)⟩, k7⟩
/-- the first load of a String constant, where all that was written is new since the body's start -/
theorem r_ldcSF {l : Launch} {R : Room} {Z : State} {own nm : String} {code : ByteArray} {maxL : Nat} {ret : Option FieldType} {K : Kx} {n0 : Nat} {Q : Option Value → Heap → Vm → Prop} {h : Heap} {cells slots pc pc' : Nat} {Ls : Array Slot} {st : List Value} {a0 : Array Value} {h0 : Heap} {vm : Vm} {k : Nat} {idx n : Nat} {text : String} {Ts : List String} {bs : List Int32} (W : Wb l R Z own nm code maxL ret n0 h0 K) (hn0 : h0.size ≤ n0) (D : Sn K vm k) (hk : k ≤ h.size) (hd : decode code pc = .ok (.ldc idx, 2)) (hp : pc + 2 = pc') (w : (Jvm.Cond.stringLink own idx text).before a0 Z = true) (wS : ∀ a ∈ Bundle.stringAtoms, a.before a0 Z = true) (hkeep : ∀ (b : Addr) (cl : Cell), Z.heap[b]? = some cl → h0[b]? = some cl)
    (I : IB Z vm Ts) (hnot : text ∉ Ts) (hh : Jvm.Lit.constHeld Z own idx) (hcw : Jvm.Lit.compactW.before a0 Z = true) (ht : (∀ c ∈ text.toList, c.toNat < 256) ∧ text.toList.map (fun c => Value.int (Jvm.Lit.byteI c.toNat.toUInt16)) = bs.map Value.int) (hbl : bs.length < 2147483648) (hn : 4 * text.toList.length ≤ n) (hbig : n ≤ 536870912) (hc : cells + 2 ≤ R.cells) (hl : slots + (n + 4) ≤ R.slots)
    (r : ∀ vm' k' h' a b kb, Sn K vm' k' → k' ≤ h'.size → Ext h h' → Str Z h' a b kb bs → IB Z vm' (text :: Ts) → Lit (Z.setVm vm') own idx a → (KS K).Since vm' k' → Run l R n0 Q (Kw K (Fr n0) vm') h' (cells + 2) (slots + (n + 4)) pc' Ls (.ref a :: st)) : Run l R n0 Q (Kw K (Fr n0) vm) h cells slots pc Ls st := by
  obtain ⟨Pl, En, p, e, s, m, args, below, meth, c⟩ := K
  intro T locs X eT N
  subst hp
  obtain ⟨w1, w2, w3, w4, w5, w6, w7, w8, w9, w10⟩ := W
  have N' : Fr n0 locs := N
  have D' : s.Since vm k := D
  have hZ : Z.Warmed39 vm := State.Warmed39.trans w2 D'.1
  have hown : vm.findClass own = some m.cls := by rw [D'.1.alike.findClass]; exact w3
  have z31 : (i32 bs.length).toNatClampNeg = (bs.map Value.int).length := by rw [i32_clamp hbl, List.length_map]
  obtain ⟨a, T', h', k1, b, kb, r1, r2, r3, r4, r5, r6, r7, r8, r9, r10, r11, r12, r13, r14, r15, r16⟩ := ldcSVL (Z := Z) (s := s) X w1 hZ hown w wS eT D' hk (fun y hy => by rw [w9]; exact Nat.le_trans hn0 (N' y hy)) (fun b cl q => by rw [w9]; exact hkeep b cl q) I hnot hh hcw ht (i32_nn hbl) z31 (g := mkF m pc Ls st) rfl (hb w4 hd) hn hbig hc hl
  obtain ⟨s2, o, q1, q2⟩ := r T'.vm k1 h' a b kb r4 r5 r3 ⟨r8, r9, r10, ⟨by rw [List.length_map]; exact r11, by rw [List.length_map]; exact hbl⟩⟩ r14 r15 r4 T' locs r1 r2 N
  exact ⟨s2, o, r16 _ q1, q2⟩
theorem nf_cls {Z : State} {a0 : Array Value} {y y' : MethodName} (h : y.cls = y'.cls) (w : (Jvm.Cond.instanceMethod y').before a0 Z = true) (nf : NotFace Z y') : NotFace Z y := fun r0 h0 => by
  obtain ⟨mk, -, hn, -⟩ := Cond.instanceMethod_spec w
  have e1 := findClass_of_methodNamed hn
  have e2 := findClass_of_methodNamed h0
  rw [h, e1] at e2
  obtain ⟨kr, q1, q2⟩ := nf mk hn
  exact ⟨kr, by rw [← Option.some.inj e2]; exact q1, q2⟩
theorem same_self {Z : State} {a0 : Array Value} {y : MethodName} (w : (Jvm.Cond.instanceMethod y).before a0 Z = true) (nf : NotFace Z y) (hy : y.cls ≠ "java/lang/invoke/MethodHandle" ∧ y.cls ≠ "java/lang/invoke/VarHandle") : (Jvm.Cond.sameMethod y.cls y.cls y.name y.desc).before a0 Z = true := by
  obtain ⟨mk, -, hn, -⟩ := Cond.instanceMethod_spec w
  have e1 := findClass_of_methodNamed hn
  have e2 := State.methodFound?_of_named hn hy
  obtain ⟨kr, q1, q2⟩ := nf mk hn
  have hn' : Z.methodNamed? ⟨y.cls, y.name, y.desc⟩ = some mk := hn
  simp [Cond.before, Cond.holds, Cond.value, e1, e2, hn', q1, q2]
section
variable {l : Launch} {R : Room} {Z : State} {own nm : String} {code : ByteArray} {maxL : Nat} {ret : Option FieldType} {K : Kx} {n0 kz : Nat} {Q : Option Value → Heap → Vm → Prop} {h : Heap} {cells slots pc pc' : Nat} {Ls : Array Slot} {st : List Value} {a0 : Array Value}
/-- super.m(..) by its contract -/
theorem r_callX (C : Ctx l R Z own nm code maxL ret true n0 kz K) {idx : Nat} {y : MethodName} {bytes : ByteArray} {mL : Nat} {rt : Option FieldType} {rm : Room} {a : Addr} {Kc : String} {argsL : List Value} {Q' : Option Value → Heap → Prop} {ps : List FieldType} {rr : Option FieldType} {W cells' slots' : Nat} {stk : List Value}
    (M : Con l [] y bytes mL rt rm Z (.ref a :: argsL).toArray h n0 Q') (F : Ins Z h a Kc true) (hd : decode code pc = .ok (.invokespecial idx, 3)) (hp : pc + 3 = pc') (w1 : (Jvm.Cond.methodLink own idx y).before a0 Z = true) (w2 : (Jvm.Cond.instanceMethod y).before a0 Z = true) (nf : NotFace Z y) (wsu : (Jvm.Cond.superclass own y.cls).before a0 Z = true) (w3 : (Jvm.Cond.initialized y.cls).before a0 Z = true) (w4 : (Jvm.Cond.code y bytes mL rt).before a0 Z = true) (hin : y.name ≠ "<init>")
    (hy : y.cls ≠ "java/lang/invoke/MethodHandle" ∧ y.cls ≠ "java/lang/invoke/VarHandle") (pd : parseMethodDescriptor y.desc = some ⟨ps, rr⟩) (hlen : argsL.length = ps.length) (hst : stk = argsL.reverse ++ .ref a :: st) (hsz : Ls.size = maxL) (hW : (st.map fun v => v.category).sum ≤ W)
    (hf : rm.frames + 1 ≤ R.frames) (hlo : W + (mL + 11) + rm.locals ≤ R.locals) (hc : cells + rm.cells ≤ R.cells) (hs : slots + rm.slots ≤ R.slots) (ec : cells + rm.cells = cells') (es : slots + rm.slots = slots')
    (r : ∀ v h', Q' v h' → Run l R n0 Q K h' cells' slots' pc' Ls (v.toList ++ st)) : Run l R n0 Q K h cells slots pc Ls stk := by
  obtain ⟨Pl, En, p, e, s, m, args, below, meth, c⟩ := K
  intro T locs X eT N
  obtain ⟨hx, hZ, hown, hby, hml, -, hnm, -, hcl, hfr, -⟩ := C
  subst hp hst ec es
  obtain ⟨v, _, ⟨T', L', k', n'⟩, -, X', ⟨Lc, ⟨hQ, N'⟩, l', y', z'⟩, s'⟩ := superBack X hx hZ (y := y) hown w1 (same_self w2 nf hy) w2 wsu hin (Con.back (W := W) M hZ w4 w3 hf hlo) eT F (g := mkF m pc Ls (argsL.reverse ++ .ref a :: st)) rfl (by show Ls.size = _; rw [hml]; exact hsz) w4 (argsL := argsL) (rest := st) (lenOf pd hlen) rfl (by show 2 * 0 + _ ≤ _; omega) (hb hby hd) (fun _ _ => ⟨rfl, eT, hc, hs⟩)
  dsimp only [Pt.U, Pt.locs, Pt.cells, Pt.slots] at X' l' y' z' s' hQ N'
  subst l' y' z'
  obtain ⟨s2, o, k1, k2⟩ := r v T'.heap hQ T' _ X' rfl (hcl rfl _ (Fr.app (hfr _ N) N'))
  exact ⟨s2, o, s'.trans k1, k2⟩
/-- a private method of a class above the object's -/
theorem r_callPX (C : Ctx l R Z own nm code maxL ret true n0 kz K) {idx : Nat} {y : MethodName} {bytes : ByteArray} {mL : Nat} {rt : Option FieldType} {rm : Room} {a : Addr} {Cn : String} {argsL : List Value} {Q' : Option Value → Heap → Prop} {ps : List FieldType} {rr : Option FieldType} {W cells' slots' : Nat} {stk : List Value}
    (M : Con l [] y bytes mL rt rm Z (.ref a :: argsL).toArray h n0 Q') (E : Exa Z h a Cn) (hd : decode code pc = .ok (.invokevirtual idx, 3)) (hp : pc + 3 = pc') (w1 : (Jvm.Cond.methodLink own idx y).before a0 Z = true) (w2 : (Jvm.Cond.instanceMethod y).before a0 Z = true) {Cs : String} (vs : (Jvm.Cond.selects Cs y y).before a0 Z = true) (wp : (Jvm.Cond.privateMethod y).before a0 Z = true) (w3 : (Jvm.Cond.initialized y.cls).before a0 Z = true) (w4 : (Jvm.Cond.code y bytes mL rt).before a0 Z = true)
    (hy : y.cls ≠ "java/lang/invoke/MethodHandle" ∧ y.cls ≠ "java/lang/invoke/VarHandle") (pd : parseMethodDescriptor y.desc = some ⟨ps, rr⟩) (hlen : argsL.length = ps.length) (hst : stk = argsL.reverse ++ .ref a :: st) (hsz : Ls.size = maxL) (hW : (st.map fun v => v.category).sum ≤ W)
    (hf : rm.frames + 1 ≤ R.frames) (hlo : W + (mL + 11) + rm.locals ≤ R.locals) (hc : cells + rm.cells ≤ R.cells) (hs : slots + rm.slots ≤ R.slots) (ec : cells + rm.cells = cells') (es : slots + rm.slots = slots')
    (r : ∀ v h', Q' v h' → Run l R n0 Q K h' cells' slots' pc' Ls (v.toList ++ st)) : Run l R n0 Q K h cells slots pc Ls stk := by
  obtain ⟨Pl, En, p, e, s, m, args, below, meth, c⟩ := K
  intro T locs X eT N
  obtain ⟨hx, hZ, hown, hby, hml, -, hnm, -, hcl, hfr, -⟩ := C
  subst hp hst ec es
  obtain ⟨cq, q1, q2⟩ := E.cell
  have hpr : s.PrivateAt y := Cond.privateMethod_at (mvP hZ wp (args := #[]))
  have hw2 : (Jvm.Cond.instanceMethod y).before args s = true := mvT hZ w2
  obtain ⟨mk, -, hn, -⟩ := Cond.instanceMethod_spec hw2
  obtain ⟨k2, hk2, hni⟩ := notFace_of_selects (mvT (args := args) hZ vs) mk hn
  have hsel := Stand.selects_self_of_private (findClass_of_methodNamed hn) hk2 hni hpr hw2 hy
  obtain ⟨v, _, ⟨T', L', k', n'⟩, -, X', ⟨Lc, ⟨hQ, N'⟩, l', y', z'⟩, s'⟩ := X.privateBack hx (y := y) hown (mvT hZ w1) hw2 hsel hpr (mvT hZ w4) hy (Con.back (W := W) M hZ w4 w3 hf hlo) (g := mkF m pc Ls (argsL.reverse ++ .ref a :: st)) rfl (by rw [hml]; exact hsz) (Steps.refl _) (a := a) (by rw [eT]; exact q1) q2 (argsL := argsL) (rest := st) (lenOf pd hlen) rfl (by show 2 * 0 + _ ≤ _; omega) (hb hby hd) (fun _ _ => ⟨rfl, eT, hc, hs⟩)
  dsimp only [Pt.U, Pt.locs, Pt.cells, Pt.slots] at X' l' y' z' s' hQ N'
  subst l' y' z'
  obtain ⟨s2, o, k1, k2⟩ := r v T'.heap hQ T' _ X' rfl (hcl rfl _ (Fr.app (hfr _ N) N'))
  exact ⟨s2, o, s'.trans k1, k2⟩
end
/-! arrays with their class known; clone -/
theorem r_newarrayE {l : Launch} {R : Room} {Z : State} {own nm : String} {code : ByteArray} {maxL : Nat} {ret : Option FieldType} {K : Kx} {fl : Bool} {n0 kz : Nat} {Q : Option Value → Heap → Vm → Prop} {h : Heap} {cells slots pc pc' : Nat} {Ls : Array Slot} {st : List Value} {a0 : Array Value} (C : Ctx l R Z own nm code maxL ret fl n0 kz K) {aty : ArrayType} {ty : FieldType} {ad : String} {j : Int32} {m cap : Nat} (hd : decode code pc = .ok (.newarray aty, 2)) (hp : pc + 2 = pc') (hty : newarray.typeOf aty = ty) (w : (Jvm.Cond.arrayClass ty).before a0 Z = true) (had : "[" ++ ty.toString = ad) (hj : j = i32 m) (hcap : m ≤ cap) (hb' : cap * 8 ≤ 536870912) (hc : cells + 1 ≤ R.cells) (hl : slots + cap ≤ R.slots)
    (r : ∀ h' a k, a = h.size → Ext h h' → AV Z h' a k ty (List.replicate m (defaultValue ty)) (defaultValue ty) → Exa Z h' a ad → Run l R n0 Q K h' (cells + 1) (slots + cap) pc' Ls (.ref a :: st)) : Run l R n0 Q K h cells slots pc Ls (.int j :: st) := by
  subst hp hty hj
  have hm : m < 2147483648 := by omega
  exact Run.move (cells' := cells + 1) (slots' := slots + cap) (pc' := pc + 2) (Ls' := Ls) (rest := .ref h.size :: st) C (fun p e s mm args below meth c hx hby hml hnm hown hZ T locs X eT => by
    obtain ⟨T', h', k, X', e', E, A, Ex, s'⟩ := newPE X hx hZ w eT (g := mkF mm pc Ls (.int (i32 m) :: st)) rfl (hb hby hd) rfl (i32_nn hm) (cap := cap) (by rw [i32_clamp hm]; exact hcap) hb' hc hl had
    exact ⟨T', h', X', e', r h' _ k rfl E (av_new hm (Arv.new A (i32_nn hm))) Ex, s'⟩)
theorem r_cloneV {l : Launch} {R : Room} {Z : State} {own nm : String} {code : ByteArray} {maxL : Nat} {ret : Option FieldType} {K : Kx} {fl : Bool} {n0 kz : Nat} {Q : Option Value → Heap → Vm → Prop} {h : Heap} {cells slots pc pc' : Nat} {Ls : Array Slot} {st : List Value} {a0 : Array Value} (C : Ctx l R Z own nm code maxL ret fl n0 kz K) {idx : Nat} {ad : String} {a : Addr} {k : ClassId} {ty : FieldType} {vs : List Value} {dv : Value} {W cap : Nat} (hd : decode code pc = .ok (.invokevirtual idx, 3)) (hp : pc + 3 = pc')
    (w1 : (Jvm.Cond.methodLink own idx ⟨ad, "clone", "()Ljava/lang/Object;"⟩).before a0 Z = true) (w2 : (Jvm.Cond.sameMethod ad "java/lang/Object" "clone" "()Ljava/lang/Object;").before a0 Z = true) (w3 : (Jvm.Cond.native ⟨"java/lang/Object", "clone", "()Ljava/lang/Object;"⟩).before a0 Z = true)
    (w4 : (Jvm.Cond.instanceMethod ⟨"java/lang/Object", "clone", "()Ljava/lang/Object;"⟩).before a0 Z = true) (w5 : (Jvm.Cond.selects ad ⟨ad, "clone", "()Ljava/lang/Object;"⟩ ⟨"java/lang/Object", "clone", "()Ljava/lang/Object;"⟩).before a0 Z = true) (w6 : (Jvm.Cond.castable ad "java/lang/Cloneable").before a0 Z = true) (A : AV Z h a k ty vs dv) (E : Exa Z h a ad) (hsz : Ls.size = maxL) (hf : 1 ≤ R.frames) (hW : (st.map fun v => v.category).sum ≤ W) (hlo : W + 14 ≤ R.locals) (hcap : vs.length ≤ cap) (hc : cells + 1 ≤ R.cells) (hl : slots + cap ≤ R.slots)
    (r : ∀ h' b, b = h.size → Ext h h' → AV Z h' b k ty vs dv → Exa Z h' b ad → Run l R n0 Q K h' (cells + 1) (slots + cap) pc' Ls (.ref b :: st)) : Run l R n0 Q K h cells slots pc Ls (.ref a :: st) := by
  subst hp
  exact Run.move (cells' := cells + 1) (slots' := slots + cap) (pc' := pc + 3) (Ls' := Ls) (rest := .ref h.size :: st) C (fun p e s mm args below meth c hx hby hml hnm hown hZ T locs X eT => by
    obtain ⟨⟨cl, A1, q1, S, q3, H, G⟩, hlen⟩ := A
    have FC : FitC Z cl := fitC_of A1 fun i hi v hv => by rw [H i hi] at hv; cases hv; exact G i hi
    obtain ⟨T', h', X', e', ex, A', E', s'⟩ := cloneA (W := W) X hx hZ hown w1 w2 w3 w4 w5 w6 eT A1 E FC (g := mkF mm pc Ls (.ref a :: st)) rfl (by show Ls.size = _; rw [hml]; exact hsz) rfl (hb hby hd) hf (by show 2 * 0 + _ ≤ _; omega) hlo (cap := cap) (by rw [S, i32_clamp hlen]; exact hcap) hc hl
    exact ⟨T', h', X', e', r h' _ rfl ex ⟨⟨cloneOf cl, A', q1, S, q3, H, G⟩, hlen⟩ E', s'⟩)
theorem Run.join {l : Launch} {R : Room} {n0 : Nat} {Q : Option Value → Heap → Vm → Prop} {K : Kx} {h h2 : Heap} {cells slots pc cells2 slots2 pc2 : Nat} {Ls Ls2 : Array Slot} {st st2 : List Value} (f : Run l R n0 Q K h2 cells2 slots2 pc2 Ls2 st2 → Run l R n0 Q K h cells slots pc Ls st) (g : Run l R n0 Q K h2 cells2 slots2 pc2 Ls2 st2) : Run l R n0 Q K h cells slots pc Ls st := f g
theorem AV.neLen {Z : State} {h : Heap} {a b : Addr} {k k' : ClassId} {ty ty' : FieldType} {vs vs' : List Value} {dv dv' : Value} (A : AV Z h a k ty vs dv) (B : AV Z h b k' ty' vs' dv') (q : vs.length ≠ vs'.length) : a ≠ b := fun e => by
  subst e
  obtain ⟨⟨c, A1, -, A2, -⟩, A3⟩ := A
  obtain ⟨⟨c', B1, -, B2, -⟩, B3⟩ := B
  obtain rfl : c = c' := Option.some.inj (A1.1.symm.trans B1.1)
  rw [i32_clamp A3] at A2
  rw [i32_clamp B3] at B2
  exact q (A2.symm.trans B2)
theorem Exa.neC {Z : State} {h : Heap} {a b : Addr} {C1 C2 : String} (A : Exa Z h a C1) (B : Exa Z h b C2) (q : C1 ≠ C2) : a ≠ b := fun e => by
  subst e
  obtain ⟨c, k, A1, A2, -⟩ := A
  obtain ⟨c', k', B1, B2, -⟩ := B
  obtain rfl : c = c' := Option.some.inj (A1.symm.trans B1)
  exact ids_ne A2 B2 q rfl
theorem i64_and255 (x : Int64) : ∃ n, n < 256 ∧ x &&& 255 = i64 n := by
  have e := c_maskL x 255 8 (by decide) rfl
  refine ⟨(x.toInt % 256).toNat, by omega, Int64.toInt_inj.mp ?_⟩
  rw [e, i64_toInt (by omega)]
  show x.toInt % 256 = _
  omega
theorem i64_abs (y : Int32) : (y < 0 → -(y.toInt64) = i64 y.toInt.natAbs) ∧ (¬ y < 0 → y.toInt64 = i64 y.toInt.natAbs) ∧ (y.toInt64 < 0 ↔ y < 0) := by
  have h1 := y.le_toInt
  have h2 := y.toInt_lt
  refine ⟨fun h => Int64.toInt_inj.mp ?_, fun h => Int64.toInt_inj.mp ?_, ?_⟩
  · have h0 : y.toInt < 0 := Int32.lt_iff_toInt_lt.mp h
    rw [Int64.toInt_neg, Int32.toInt_toInt64, i64_toInt (by omega), Int.bmod_eq_of_le (by omega) (by omega)]; omega
  · have h0 : ¬ y.toInt < 0 := fun z => h (Int32.lt_iff_toInt_lt.mpr z)
    rw [Int32.toInt_toInt64, i64_toInt (by omega)]; omega
  · rw [Int64.lt_iff_toInt_lt, Int32.lt_iff_toInt_lt, Int32.toInt_toInt64]; rfl
theorem r_anewarrayE {l : Launch} {R : Room} {Z : State} {own nm : String} {code : ByteArray} {maxL : Nat} {ret : Option FieldType} {K : Kx} {fl : Bool} {n0 kz : Nat} {Q : Option Value → Heap → Vm → Prop} {h : Heap} {cells slots pc pc' : Nat} {Ls : Array Slot} {st : List Value} {a0 : Array Value} (C : Ctx l R Z own nm code maxL ret fl n0 kz K) {idx : Nat} {Cn ad : String} {j : Int32} {m cap : Nat} (hd : decode code pc = .ok (.anewarray idx, 3)) (hp : pc + 3 = pc') (w : (Jvm.Cond.classLink own idx Cn).before a0 Z = true) (w2 : (Jvm.Cond.arrayOver (.object Cn)).before a0 Z = true) (had : "[" ++ (FieldType.object Cn).toString = ad) (hj : j = i32 m) (hcap : m ≤ cap) (hb' : cap * 8 ≤ 536870912) (hc : cells + 1 ≤ R.cells) (hl : slots + cap ≤ R.slots)
    (r : ∀ h' a k, a = h.size → Ext h h' → AV Z h' a k (.object Cn) (List.replicate m .null) .null → Exa Z h' a ad → Ovr Z k Cn → Run l R n0 Q K h' (cells + 1) (slots + cap) pc' Ls (.ref a :: st)) : Run l R n0 Q K h cells slots pc Ls (.int j :: st) := by
  subst hp hj
  have hm : m < 2147483648 := by omega
  exact Run.move (cells' := cells + 1) (slots' := slots + cap) (pc' := pc + 3) (Ls' := Ls) (rest := .ref h.size :: st) C (fun p e s mm args below meth c hx hby hml hnm hown hZ T locs X eT => by
    obtain ⟨T', h', k, X', e', E, A, Ex, O, s'⟩ := newRE X hx hZ hown w w2 eT (g := mkF mm pc Ls (.int (i32 m) :: st)) rfl (hb hby hd) rfl (i32_nn hm) (cap := cap) (by rw [i32_clamp hm]; exact hcap) hb' hc hl had
    exact ⟨T', h', X', e', r h' _ k rfl E (av_new hm (Arv.new A (i32_nn hm))) Ex O, s'⟩)
/-- the Class object of the class C, as the tables know it -/
def MirA (Z : State) (C : String) (m : Addr) : Prop := ∃ (c : ClassId) (k : Class), Z.vm.findClass C = some c ∧ Z.vm.classes[c]? = some k ∧ k.mirror = some m
theorem r_ldcM {l : Launch} {R : Room} {Z : State} {own nm : String} {code : ByteArray} {maxL : Nat} {ret : Option FieldType} {K : Kx} {fl : Bool} {n0 kz : Nat} {Q : Option Value → Heap → Vm → Prop} {h : Heap} {cells slots pc pc' : Nat} {Ls : Array Slot} {st : List Value} {a0 : Array Value} (C : Ctx l R Z own nm code maxL ret fl n0 kz K) {idx : Nat} {Cn : String} {m : Addr} (hd : decode code pc = .ok (.ldc idx, 2)) (hp : pc + 2 = pc') (w : (Jvm.Cond.classLink own idx Cn).before a0 Z = true) (M : MirA Z Cn m) (r : Run l R n0 Q K h cells slots pc' Ls (.ref m :: st)) : Run l R n0 Q K h cells slots pc Ls st := by
  subst hp
  exact Run.move (cells' := cells) (slots' := slots) (pc' := pc + 2) (Ls' := Ls) (rest := .ref m :: st) C (fun p e s mm args below meth c hx hby hml hnm hown hZ T locs X eT => by
    obtain ⟨cc, kc, m1, m2, m3⟩ := M
    obtain ⟨k', q, ek⟩ := hZ.alike.2.2 _ _ m2
    have hev : (Term.mirror Cn).eval args s none [] s = some (.ref m) := by
      have e1 : s.vm.findClass Cn = some cc := by rw [hZ.alike.findClass]; exact m1
      have e2 : k'.mirror = some m := by rw [ek]; exact m3
      simp [Term.eval, e1, q, e2]
    obtain ⟨vm', X', st'⟩ := X.ldcMirror hx hown (mv hZ w) hev (g := mkF mm pc Ls st) rfl (hb hby hd)
    exact ⟨_, h, X', eT, r, st'⟩)
theorem r_getClass {l : Launch} {R : Room} {Z : State} {own nm : String} {code : ByteArray} {maxL : Nat} {ret : Option FieldType} {K : Kx} {fl : Bool} {n0 kz : Nat} {Q : Option Value → Heap → Vm → Prop} {h : Heap} {cells slots pc pc' : Nat} {Ls : Array Slot} {st : List Value} {a0 : Array Value} (C : Ctx l R Z own nm code maxL ret fl n0 kz K) {idx : Nat} {Cn : String} {a m : Addr} {W : Nat} (hd : decode code pc = .ok (.invokevirtual idx, 3)) (hp : pc + 3 = pc')
    (w1 : (Jvm.Cond.methodLink own idx ⟨"java/lang/Object", "getClass", "()Ljava/lang/Class;"⟩).before a0 Z = true) (w2 : (Jvm.Cond.declares ⟨"java/lang/Object", "getClass", "()Ljava/lang/Class;"⟩).before a0 Z = true) (w4 : (Jvm.Cond.selects Cn ⟨"java/lang/Object", "getClass", "()Ljava/lang/Class;"⟩ ⟨"java/lang/Object", "getClass", "()Ljava/lang/Class;"⟩).before a0 Z = true)
    (w5 : (Jvm.Cond.instanceMethod ⟨"java/lang/Object", "getClass", "()Ljava/lang/Class;"⟩).before a0 Z = true) (w6 : (Jvm.Cond.native ⟨"java/lang/Object", "getClass", "()Ljava/lang/Class;"⟩).before a0 Z = true) (E : Exa Z h a Cn) (M : MirA Z Cn m) (hsz : Ls.size = maxL) (hf : 1 ≤ R.frames) (hW : (st.map fun v => v.category).sum ≤ W) (hlo : W + 14 ≤ R.locals)
    (r : Run l R n0 Q K h cells slots pc' Ls (.ref m :: st)) : Run l R n0 Q K h cells slots pc Ls (.ref a :: st) := by
  subst hp
  exact Run.move (cells' := cells) (slots' := slots) (pc' := pc + 3) (Ls' := Ls) (rest := .ref m :: st) C (fun p e s mm args below meth c hx hby hml hnm hown hZ T locs X eT => by
    obtain ⟨cB, kB, i1, i2, i3⟩ := isOf hZ eT E
    obtain ⟨cc, kc, m1, m2, m3⟩ := M
    rw [hZ.alike.findClass] at i1
    cases i1.symm.trans m1
    obtain ⟨k', q, ek⟩ := hZ.alike.2.2 _ _ m2
    obtain ⟨vm', X', st'⟩ := X.getClassOf hx hown (mvT hZ w1) (mvT hZ w2) (nfSel (z := ⟨"java/lang/Object", "getClass", "()Ljava/lang/Class;"⟩) w4 s #[] hZ) (mvT hZ w4) (mvT hZ w5) (mvT hZ w6) (by rw [hZ.alike.findClass]; exact m1) i3 q (by rw [ek]; exact m3) (g := mkF mm pc Ls (.ref a :: st)) rfl (by show Ls.size = _; rw [hml]; exact hsz) rfl (hb hby hd) hf (by show 2 * 0 + _ + (3 + 11) ≤ _; omega)
    exact ⟨_, h, X', eT, r, st'⟩)
theorem stoL_of {Z : State} {h : Heap} {b : Addr} {k : ClassId} {ty : FieldType} {vd : List Value} {dd : Value} (B : AV Z h b k ty vd dd) : ∀ us : List Value, (∀ v ∈ us, Stv Z h k v) → StoL Z h b us
  | [], _ => trivial
  | v :: r, H => ⟨by
      obtain ⟨⟨c, A, q, -⟩, -⟩ := B
      rcases H v (List.mem_cons_self ..) with rfl | ⟨y, Cn, rfl, O, I⟩
      · exact Or.inl rfl
      · exact Sto.ofV A q O I, stoL_of B r fun w hw => H w (List.mem_cons_of_mem _ hw)⟩
theorem r_copyR {l : Launch} {R : Room} {Z : State} {own nm : String} {code : ByteArray} {maxL : Nat} {ret : Option FieldType} {K : Kx} {n0 kz : Nat} {Q : Option Value → Heap → Vm → Prop} {h : Heap} {cells slots pc pc' : Nat} {Ls : Array Slot} {st : List Value} {a0 : Array Value} (C : Ctx l R Z own nm code maxL ret true n0 kz K) {idx : Nat} {a b : Addr} {k k' : ClassId} {ty ty' : FieldType} {vs vd : List Value} {dv dd : Value} {sp dp n : Nat} {js jd jn : Int32} {W : Nat}
    (hd : decode code pc = .ok (.invokestatic idx, 3)) (hp : pc + 3 = pc') (w1 : (Jvm.Cond.methodLink own idx Jvm.Stand.acN).before a0 Z = true) (w2 : (Jvm.Cond.native Jvm.Stand.acN).before a0 Z = true) (w3 : (Jvm.Cond.static Jvm.Stand.acN).before a0 Z = true) (w4 : (Jvm.Cond.initialized "java/lang/System").before a0 Z = true) (A : AV Z h a k ty vs dv) (B : AV Z h b k' ty' vd dd) (hr : refKind ty = true ∧ refKind ty' = true) (hus : ∀ v ∈ (vs.drop sp).take n, Stv Z h k' v) (ejs : js = i32 sp) (ejd : jd = i32 dp) (ejn : jn = i32 n) (h4 : sp + n ≤ vs.length) (h5 : dp + n ≤ vd.length) (ge : n0 ≤ b) (hsz : Ls.size = maxL) (hf : 1 ≤ R.frames) (hW : (st.map fun v => v.category).sum ≤ W) (hlo : W + (nativeFrameWords "java/lang/System" "arraycopy" 5 + 11) ≤ R.locals)
    (r : ∀ h', Keep h h' [b] → AV Z h' b k' ty' (vd.take dp ++ (vs.drop sp).take n ++ vd.drop (dp + n)) dd → Run l R n0 Q K h' cells slots pc' Ls st) : Run l R n0 Q K h cells slots pc Ls (.int jn :: .int jd :: .ref b :: .int js :: .ref a :: st) := by
  obtain ⟨Pl, En, p, e, s, m, args, below, meth, c⟩ := K
  intro T locs X eT N
  obtain ⟨hx, hZ, hown, hby, hml, -, hnm, -, hcl, hfr, -⟩ := C
  subst hp ejs ejd ejn
  have la := A.2
  have lb := B.2
  have c1 := i32_clamp (n := sp) (by omega)
  have c2 := i32_clamp (n := dp) (by omega)
  have c3 := i32_clamp (n := n) (by omega)
  have c4 := i32_clamp la
  have c5 := i32_clamp lb
  obtain ⟨T', h', L, X', eT', N', Kp, B', stp⟩ := cpA (W := W) X hx hZ hown w1 w2 w3 w4 eT A.1 B.1 (us := (vs.drop sp).take n) (Or.inr ⟨hr.1, hr.2, stoL_of B _ hus⟩) (i32_nn (n := sp) (by omega)) (i32_nn (n := dp) (by omega)) (i32_nn (n := n) (by omega)) (by rw [c1, c3, c4]; exact h4) (by rw [c2, c3, c5]; exact h5)
    (by
      rw [c1, c3]
      apply List.ext_getElem?
      intro i
      by_cases hi : i < n
      · rw [List.getElem?_take_of_lt hi, List.getElem?_drop, List.getElem?_map, List.getElem?_range hi]
        have : sp + i < vs.length := by omega
        simp [List.getD_eq_getElem?_getD, this]
      · rw [List.getElem?_eq_none (by rw [List.length_take]; omega), List.getElem?_eq_none (by simp; omega)]) (by rw [c2, c3]; exact h5) (hfr _ N) ge (g := mkF m pc Ls (.int (i32 n) :: .int (i32 dp) :: .ref b :: .int (i32 sp) :: .ref a :: st)) rfl (by show Ls.size = _; rw [hml]; exact hsz) rfl (hb hby hd) hf (by show 2 * 0 + _ ≤ _; omega) hlo
  rw [c2, c3] at B'
  have el : (vd.take dp ++ (vs.drop sp).take n ++ vd.drop (dp + n)).length = vd.length := by
    simp only [List.length_append, List.length_take, List.length_drop]; omega
  obtain ⟨s2, o, k1, k2⟩ := r h' Kp ⟨by rw [el]; exact B', by rw [el]; exact lb⟩ T' L X' eT' (hcl rfl _ N')
  exact ⟨s2, o, stp _ k1, k2⟩
theorem AV.neTy {Z : State} {h : Heap} {a b : Addr} {k k' : ClassId} {ty ty' : FieldType} {vs vs' : List Value} {dv dv' : Value} (A : AV Z h a k ty vs dv) (B : AV Z h b k' ty' vs' dv') (q : ty ≠ ty') : a ≠ b := fun e => by
  subst e
  obtain ⟨⟨c, A1, -⟩, -⟩ := A
  obtain ⟨⟨c', B1, -⟩, -⟩ := B
  obtain rfl : c = c' := Option.some.inj (A1.1.symm.trans B1.1)
  obtain ⟨-, k1, z1, c1, z2⟩ := A1.2.1
  obtain ⟨-, k2, y1, c2, y2⟩ := B1.2.1
  cases z1.symm.trans y1
  rw [z2] at y2
  cases y2
  exact q rfl
/-- r_ldcSF, and what was booked before stays booked -/
theorem r_ldcSG {l : Launch} {R : Room} {Z : State} {own nm : String} {code : ByteArray} {maxL : Nat} {ret : Option FieldType} {K : Kx} {n0 : Nat} {Q : Option Value → Heap → Vm → Prop} {h : Heap} {cells slots pc pc' : Nat} {Ls : Array Slot} {st : List Value} {a0 : Array Value} {h0 : Heap} {vm : Vm} {k : Nat} {idx n : Nat} {text : String} {Ts : List String} {bs : List Int32} (W : Wb l R Z own nm code maxL ret n0 h0 K) (hn0 : h0.size ≤ n0) (D : Sn K vm k) (hk : k ≤ h.size) (hk2 : h0.size ≤ h.size) (hd : decode code pc = .ok (.ldc idx, 2)) (hp : pc + 2 = pc') (w : (Jvm.Cond.stringLink own idx text).before a0 Z = true) (wS : ∀ a ∈ Bundle.stringAtoms, a.before a0 Z = true) (hkeep : ∀ (b : Addr) (cl : Cell), Z.heap[b]? = some cl → h0[b]? = some cl)
    (I : IB Z vm Ts) (hnot : text ∉ Ts) (hh : Jvm.Lit.constHeld Z own idx) (hcw : Jvm.Lit.compactW.before a0 Z = true) (ht : (∀ c ∈ text.toList, c.toNat < 256) ∧ text.toList.map (fun c => Value.int (Jvm.Lit.byteI c.toNat.toUInt16)) = bs.map Value.int) (hbl : bs.length < 2147483648) (hn : 4 * text.toList.length ≤ n) (hbig : n ≤ 536870912) (hc : cells + 2 ≤ R.cells) (hl : slots + (n + 4) ≤ R.slots)
    (r : ∀ vm' k' h' a b kb, Sn K vm' k' → k' ≤ h'.size → Ext h h' → Str Z h' a b kb bs → IB Z vm' (text :: Ts) → Lit (Z.setVm vm') own idx a → (∀ {cn : String} {i : Nat} {x : Addr}, Lit (Z.setVm vm) cn i x → Lit (Z.setVm vm') cn i x) → Run l R n0 Q (Kw K (Fr n0) vm') h' (cells + 2) (slots + (n + 4)) pc' Ls (.ref a :: st)) : Run l R n0 Q (Kw K (Fr n0) vm) h cells slots pc Ls st := by
  obtain ⟨Pl, En, p, e, s, m, args, below, meth, c⟩ := K
  intro T locs X eT N
  subst hp
  obtain ⟨w1, w2, w3, w4, w5, w6, w7, w8, w9, w10⟩ := W
  have N' : Fr n0 locs := N
  have D' : s.Since vm k := D
  have hZ : Z.Warmed39 vm := State.Warmed39.trans w2 D'.1
  have hown : vm.findClass own = some m.cls := by rw [D'.1.alike.findClass]; exact w3
  have z31 : (i32 bs.length).toNatClampNeg = (bs.map Value.int).length := by rw [i32_clamp hbl, List.length_map]
  have w9' : (s.setVm vm).heap = h0 := w9
  obtain ⟨a, T', h', k1, b, kb, r1, r2, r3, r4, r5, r6, r7, r8, r9, r10, r11, r12, r13, r14, r15, r16⟩ := ldcSVL (Z := Z) (s := s.setVm vm) (vm0 := vm) X w1 hZ hown w wS eT (since_refl (s.setVm vm)) (by rw [w9']; exact hk2) (fun y hy => by rw [w9']; exact Nat.le_trans hn0 (N' y hy)) (fun b cl q => by rw [w9']; exact hkeep b cl q) I hnot hh hcw ht (i32_nn hbl) z31 (g := mkF m pc Ls st) rfl (hb w4 hd) hn hbig hc hl
  have r4' : (s.setVm vm).Since T'.vm h'.size := ⟨r4.1, fun j p h1 h2 => ⟨(r4.2 j p h1 h2).1, Nat.lt_of_lt_of_le (r4.2 j p h1 h2).2 r5⟩⟩
  have D2 : s.Since T'.vm h'.size := D'.trans r4' (Nat.le_trans hk r3.1)
  obtain ⟨s2, o, q1, q2⟩ := r T'.vm h'.size h' a b kb D2 (Nat.le_refl _) r3 ⟨r8, r9, r10, ⟨by rw [List.length_map]; exact r11, by rw [List.length_map]; exact hbl⟩⟩ r14 r15 (fun L => (State.resolvedAt?_warmed39 (s := s.setVm vm) r4.1 L : (s.setVm T'.vm).resolvedAt? _ _ = _)) T' locs r1 r2 N
  exact ⟨s2, o, r16 _ q1, q2⟩
end Jvm.OwnKit
namespace Jvm.Pilot.@@N@@
open Jvm Jvm.ClassFile Sem Op Lib Jvm.Free Jvm.Stand Jvm.LawKit Jvm.RoadKit Jvm.OwnKit Bundle Jvm.Pilot.@@N@@.Jvm.D
theorem w0 {Z : State} {a0 : Array Value} (hw : ∀ d ∈ tables_1, d.before a0 Z = true) : ((Jvm.Cond.methodLink "com/example/ranker/ranker/RunFileLinePinLaw" (7 : Nat) ({ cls := "com/example/ranker/ranker/RunFileLinePinLaw", name := "mk", desc := "(JI)Ljava/lang/String;" } : Jvm.MethodName)) : Jvm.Cond).before a0 Z = true := hw _ (List.mem_of_getElem? (i := 0) rfl)
theorem w1 {Z : State} {a0 : Array Value} (hw : ∀ d ∈ tables_1, d.before a0 Z = true) : ((Jvm.Cond.static ({ cls := "com/example/ranker/ranker/RunFileLinePinLaw", name := "mk", desc := "(JI)Ljava/lang/String;" } : Jvm.MethodName)) : Jvm.Cond).before a0 Z = true := hw _ (List.mem_of_getElem? (i := 1) rfl)
theorem w2 {Z : State} {a0 : Array Value} (hw : ∀ d ∈ tables_1, d.before a0 Z = true) : ((Jvm.Cond.initialized "com/example/ranker/ranker/RunFileLinePinLaw") : Jvm.Cond).before a0 Z = true := hw _ (List.mem_of_getElem? (i := 2) rfl)
theorem w3 {Z : State} {a0 : Array Value} (hw : ∀ d ∈ tables_1, d.before a0 Z = true) : ((Jvm.Cond.code ({ cls := "com/example/ranker/ranker/RunFileLinePinLaw", name := "mk", desc := "(JI)Ljava/lang/String;" } : Jvm.MethodName) method_3_code (6 : Nat) (Option.some (Jvm.ClassFile.FieldType.object "java/lang/String"))) : Jvm.Cond).before a0 Z = true := hw _ (List.mem_of_getElem? (i := 3) rfl)
theorem w4 {Z : State} {a0 : Array Value} (hw : ∀ d ∈ tables_1, d.before a0 Z = true) : ((Jvm.Cond.constantLong "com/example/ranker/ranker/RunFileLinePinLaw" (65 : Nat) (255 : Int64)) : Jvm.Cond).before a0 Z = true := hw _ (List.mem_of_getElem? (i := 4) rfl)
theorem w5 {Z : State} {a0 : Array Value} (hw : ∀ d ∈ tables_1, d.before a0 Z = true) : ((Jvm.Cond.arrayClass Jvm.ClassFile.FieldType.char) : Jvm.Cond).before a0 Z = true := hw _ (List.mem_of_getElem? (i := 5) rfl)
theorem w6 {Z : State} {a0 : Array Value} (hw : ∀ d ∈ tables_1, d.before a0 Z = true) : ((Jvm.Cond.classLink "com/example/ranker/ranker/RunFileLinePinLaw" (30 : Nat) "java/lang/String") : Jvm.Cond).before a0 Z = true := hw _ (List.mem_of_getElem? (i := 6) rfl)
theorem w7 {Z : State} {a0 : Array Value} (hw : ∀ d ∈ tables_1, d.before a0 Z = true) : ((Jvm.Cond.instantiable "java/lang/String" (4 : Nat)) : Jvm.Cond).before a0 Z = true := hw _ (List.mem_of_getElem? (i := 7) rfl)
theorem w8 {Z : State} {a0 : Array Value} (hw : ∀ d ∈ tables_1, d.before a0 Z = true) : ((Jvm.Cond.initialized "java/lang/String") : Jvm.Cond).before a0 Z = true := hw _ (List.mem_of_getElem? (i := 8) rfl)
theorem w9 {Z : State} {a0 : Array Value} (hw : ∀ d ∈ tables_1, d.before a0 Z = true) : ((Jvm.Cond.methodLink "com/example/ranker/ranker/RunFileLinePinLaw" (67 : Nat) ({ cls := "java/lang/String", name := "<init>", desc := "([C)V" } : Jvm.MethodName)) : Jvm.Cond).before a0 Z = true := hw _ (List.mem_of_getElem? (i := 9) rfl)
theorem w10 {Z : State} {a0 : Array Value} (hw : ∀ d ∈ tables_1, d.before a0 Z = true) : ((Jvm.Cond.instanceMethod ({ cls := "java/lang/String", name := "<init>", desc := "([C)V" } : Jvm.MethodName)) : Jvm.Cond).before a0 Z = true := hw _ (List.mem_of_getElem? (i := 10) rfl)
theorem w11 {Z : State} {a0 : Array Value} (hw : ∀ d ∈ tables_1, d.before a0 Z = true) : ((Jvm.Cond.code ({ cls := "java/lang/String", name := "<init>", desc := "([C)V" } : Jvm.MethodName) jdk_42_method_3_code (2 : Nat) (Option.none : Option Jvm.ClassFile.FieldType)) : Jvm.Cond).before a0 Z = true := hw _ (List.mem_of_getElem? (i := 11) rfl)
theorem w12 {Z : State} {a0 : Array Value} (hw : ∀ d ∈ tables_1, d.before a0 Z = true) : ((Jvm.Cond.methodLink "java/lang/String" (27 : Nat) ({ cls := "java/lang/String", name := "<init>", desc := "([CIILjava/lang/Void;)V" } : Jvm.MethodName)) : Jvm.Cond).before a0 Z = true := hw _ (List.mem_of_getElem? (i := 12) rfl)
theorem w13 {Z : State} {a0 : Array Value} (hw : ∀ d ∈ tables_1, d.before a0 Z = true) : ((Jvm.Cond.instanceMethod ({ cls := "java/lang/String", name := "<init>", desc := "([CIILjava/lang/Void;)V" } : Jvm.MethodName)) : Jvm.Cond).before a0 Z = true := hw _ (List.mem_of_getElem? (i := 13) rfl)
theorem w15 {Z : State} {a0 : Array Value} (hw : ∀ d ∈ tables_1, d.before a0 Z = true) : ((Jvm.Cond.code ({ cls := "java/lang/String", name := "<init>", desc := "([CIILjava/lang/Void;)V" } : Jvm.MethodName) jdk_42_method_149_code (6 : Nat) (Option.none : Option Jvm.ClassFile.FieldType)) : Jvm.Cond).before a0 Z = true := hw _ (List.mem_of_getElem? (i := 15) rfl)
theorem w16 {Z : State} {a0 : Array Value} (hw : ∀ d ∈ tables_1, d.before a0 Z = true) : ((Jvm.Cond.methodLink "java/lang/String" (1 : Nat) ({ cls := "java/lang/Object", name := "<init>", desc := "()V" } : Jvm.MethodName)) : Jvm.Cond).before a0 Z = true := hw _ (List.mem_of_getElem? (i := 16) rfl)
theorem w17 {Z : State} {a0 : Array Value} (hw : ∀ d ∈ tables_1, d.before a0 Z = true) : ((Jvm.Cond.instanceMethod ({ cls := "java/lang/Object", name := "<init>", desc := "()V" } : Jvm.MethodName)) : Jvm.Cond).before a0 Z = true := hw _ (List.mem_of_getElem? (i := 17) rfl)
theorem w18 {Z : State} {a0 : Array Value} (hw : ∀ d ∈ tables_1, d.before a0 Z = true) : ((Jvm.Cond.code ({ cls := "java/lang/Object", name := "<init>", desc := "()V" } : Jvm.MethodName) object_method_1_code (1 : Nat) (Option.none : Option Jvm.ClassFile.FieldType)) : Jvm.Cond).before a0 Z = true := hw _ (List.mem_of_getElem? (i := 18) rfl)
theorem w19 {Z : State} {a0 : Array Value} (hw : ∀ d ∈ tables_1, d.before a0 Z = true) : ((Jvm.Cond.fieldLink "java/lang/String" (38 : Nat) "java/lang/String" "COMPACT_STRINGS" "Z") : Jvm.Cond).before a0 Z = true := hw _ (List.mem_of_getElem? (i := 19) rfl)
theorem w20 {Z : State} {a0 : Array Value} (hw : ∀ d ∈ tables_1, d.before a0 Z = true) : ((Jvm.Cond.methodLink "java/lang/String" (177 : Nat) ({ cls := "java/lang/StringUTF16", name := "compress", desc := "([CII)[B" } : Jvm.MethodName)) : Jvm.Cond).before a0 Z = true := hw _ (List.mem_of_getElem? (i := 20) rfl)
theorem w21 {Z : State} {a0 : Array Value} (hw : ∀ d ∈ tables_1, d.before a0 Z = true) : ((Jvm.Cond.static ({ cls := "java/lang/StringUTF16", name := "compress", desc := "([CII)[B" } : Jvm.MethodName)) : Jvm.Cond).before a0 Z = true := hw _ (List.mem_of_getElem? (i := 21) rfl)
theorem w22 {Z : State} {a0 : Array Value} (hw : ∀ d ∈ tables_1, d.before a0 Z = true) : ((Jvm.Cond.initialized "java/lang/StringUTF16") : Jvm.Cond).before a0 Z = true := hw _ (List.mem_of_getElem? (i := 22) rfl)
theorem w23 {Z : State} {a0 : Array Value} (hw : ∀ d ∈ tables_1, d.before a0 Z = true) : ((Jvm.Cond.code ({ cls := "java/lang/StringUTF16", name := "compress", desc := "([CII)[B" } : Jvm.MethodName) jdk_52_method_16_code (6 : Nat) (Option.some (Jvm.ClassFile.FieldType.array Jvm.ClassFile.FieldType.byte))) : Jvm.Cond).before a0 Z = true := hw _ (List.mem_of_getElem? (i := 23) rfl)
theorem w24 {Z : State} {a0 : Array Value} (hw : ∀ d ∈ tables_1, d.before a0 Z = true) : ((Jvm.Cond.arrayClass Jvm.ClassFile.FieldType.byte) : Jvm.Cond).before a0 Z = true := hw _ (List.mem_of_getElem? (i := 24) rfl)
theorem w25 {Z : State} {a0 : Array Value} (hw : ∀ d ∈ tables_1, d.before a0 Z = true) : ((Jvm.Cond.methodLink "java/lang/StringUTF16" (115 : Nat) ({ cls := "java/lang/StringUTF16", name := "compress", desc := "([CI[BII)I" } : Jvm.MethodName)) : Jvm.Cond).before a0 Z = true := hw _ (List.mem_of_getElem? (i := 25) rfl)
theorem w26 {Z : State} {a0 : Array Value} (hw : ∀ d ∈ tables_1, d.before a0 Z = true) : ((Jvm.Cond.static ({ cls := "java/lang/StringUTF16", name := "compress", desc := "([CI[BII)I" } : Jvm.MethodName)) : Jvm.Cond).before a0 Z = true := hw _ (List.mem_of_getElem? (i := 26) rfl)
theorem w27 {Z : State} {a0 : Array Value} (hw : ∀ d ∈ tables_1, d.before a0 Z = true) : ((Jvm.Cond.code ({ cls := "java/lang/StringUTF16", name := "compress", desc := "([CI[BII)I" } : Jvm.MethodName) jdk_52_method_21_code (7 : Nat) (Option.some Jvm.ClassFile.FieldType.int)) : Jvm.Cond).before a0 Z = true := hw _ (List.mem_of_getElem? (i := 27) rfl)
theorem w28 {Z : State} {a0 : Array Value} (hw : ∀ d ∈ tables_1, d.before a0 Z = true) : ((Jvm.Cond.methodLink "java/lang/String" (47 : Nat) ({ cls := "java/lang/StringUTF16", name := "coderFromArrayLen", desc := "([BI)B" } : Jvm.MethodName)) : Jvm.Cond).before a0 Z = true := hw _ (List.mem_of_getElem? (i := 28) rfl)
theorem w29 {Z : State} {a0 : Array Value} (hw : ∀ d ∈ tables_1, d.before a0 Z = true) : ((Jvm.Cond.static ({ cls := "java/lang/StringUTF16", name := "coderFromArrayLen", desc := "([BI)B" } : Jvm.MethodName)) : Jvm.Cond).before a0 Z = true := hw _ (List.mem_of_getElem? (i := 29) rfl)
theorem w30 {Z : State} {a0 : Array Value} (hw : ∀ d ∈ tables_1, d.before a0 Z = true) : ((Jvm.Cond.code ({ cls := "java/lang/StringUTF16", name := "coderFromArrayLen", desc := "([BI)B" } : Jvm.MethodName) jdk_52_method_15_code (2 : Nat) (Option.some Jvm.ClassFile.FieldType.byte)) : Jvm.Cond).before a0 Z = true := hw _ (List.mem_of_getElem? (i := 30) rfl)
theorem w31 {Z : State} {a0 : Array Value} (hw : ∀ d ∈ tables_1, d.before a0 Z = true) : ((Jvm.Cond.fieldLink "java/lang/String" (15 : Nat) "java/lang/String" "coder" "B") : Jvm.Cond).before a0 Z = true := hw _ (List.mem_of_getElem? (i := 31) rfl)
theorem w32 {Z : State} {a0 : Array Value} (hw : ∀ d ∈ tables_1, d.before a0 Z = true) : ((Jvm.Cond.laysFinal "java/lang/String" "java/lang/String" "coder" "B") : Jvm.Cond).before a0 Z = true := hw _ (List.mem_of_getElem? (i := 32) rfl)
theorem w33 {Z : State} {a0 : Array Value} (hw : ∀ d ∈ tables_1, d.before a0 Z = true) : ((Jvm.Cond.fieldLink "java/lang/String" (9 : Nat) "java/lang/String" "value" "[B") : Jvm.Cond).before a0 Z = true := hw _ (List.mem_of_getElem? (i := 33) rfl)
theorem w34 {Z : State} {a0 : Array Value} (hw : ∀ d ∈ tables_1, d.before a0 Z = true) : ((Jvm.Cond.laysFinal "java/lang/String" "java/lang/String" "value" "[B") : Jvm.Cond).before a0 Z = true := hw _ (List.mem_of_getElem? (i := 34) rfl)
theorem w35 {Z : State} {a0 : Array Value} (hw : ∀ d ∈ tables_1, d.before a0 Z = true) : ((Jvm.Cond.stringLink "java/lang/String" (7 : Nat) "") : Jvm.Cond).before a0 Z = true := hw _ (List.mem_of_getElem? (i := 35) rfl)
theorem w36 {Z : State} {a0 : Array Value} (hw : ∀ d ∈ tables_1, d.before a0 Z = true) : ((Jvm.Cond.soleField "java/lang/String" "value") : Jvm.Cond).before a0 Z = true := hw _ (List.mem_of_getElem? (i := 36) rfl)
theorem w37 {Z : State} {a0 : Array Value} (hw : ∀ d ∈ tables_1, d.before a0 Z = true) : ((Jvm.Cond.soleField "java/lang/String" "coder") : Jvm.Cond).before a0 Z = true := hw _ (List.mem_of_getElem? (i := 37) rfl)
theorem w38 {Z : State} {a0 : Array Value} (hw : ∀ d ∈ tables_1, d.before a0 Z = true) : ((Jvm.Cond.methodLink "com/example/ranker/ranker/RunFileLinePinLaw" (13 : Nat) ({ cls := "com/example/ranker/ranker/RunFile", name := "line", desc := "(Ljava/lang/String;Ljava/lang/String;ILjava/lang/String;Ljava/lang/String;)Ljava/lang/String;" } : Jvm.MethodName)) : Jvm.Cond).before a0 Z = true := hw _ (List.mem_of_getElem? (i := 38) rfl)
theorem w39 {Z : State} {a0 : Array Value} (hw : ∀ d ∈ tables_1, d.before a0 Z = true) : ((Jvm.Cond.static ({ cls := "com/example/ranker/ranker/RunFile", name := "line", desc := "(Ljava/lang/String;Ljava/lang/String;ILjava/lang/String;Ljava/lang/String;)Ljava/lang/String;" } : Jvm.MethodName)) : Jvm.Cond).before a0 Z = true := hw _ (List.mem_of_getElem? (i := 39) rfl)
theorem w40 {Z : State} {a0 : Array Value} (hw : ∀ d ∈ tables_1, d.before a0 Z = true) : ((Jvm.Cond.initialized "com/example/ranker/ranker/RunFile") : Jvm.Cond).before a0 Z = true := hw _ (List.mem_of_getElem? (i := 40) rfl)
theorem w41 {Z : State} {a0 : Array Value} (hw : ∀ d ∈ tables_1, d.before a0 Z = true) : ((Jvm.Cond.code ({ cls := "com/example/ranker/ranker/RunFile", name := "line", desc := "(Ljava/lang/String;Ljava/lang/String;ILjava/lang/String;Ljava/lang/String;)Ljava/lang/String;" } : Jvm.MethodName) prog_24_method_5_code (5 : Nat) (Option.some (Jvm.ClassFile.FieldType.object "java/lang/String"))) : Jvm.Cond).before a0 Z = true := hw _ (List.mem_of_getElem? (i := 41) rfl)
theorem w42 {Z : State} {a0 : Array Value} (hw : ∀ d ∈ tables_1, d.before a0 Z = true) : ((Jvm.Cond.classLink "com/example/ranker/ranker/RunFile" (131 : Nat) "java/lang/StringBuilder") : Jvm.Cond).before a0 Z = true := hw _ (List.mem_of_getElem? (i := 42) rfl)
theorem w43 {Z : State} {a0 : Array Value} (hw : ∀ d ∈ tables_1, d.before a0 Z = true) : ((Jvm.Cond.instantiable "java/lang/StringBuilder" (4 : Nat)) : Jvm.Cond).before a0 Z = true := hw _ (List.mem_of_getElem? (i := 43) rfl)
theorem w44 {Z : State} {a0 : Array Value} (hw : ∀ d ∈ tables_1, d.before a0 Z = true) : ((Jvm.Cond.initialized "java/lang/StringBuilder") : Jvm.Cond).before a0 Z = true := hw _ (List.mem_of_getElem? (i := 44) rfl)
theorem w45 {Z : State} {a0 : Array Value} (hw : ∀ d ∈ tables_1, d.before a0 Z = true) : ((Jvm.Cond.methodLink "com/example/ranker/ranker/RunFile" (133 : Nat) ({ cls := "java/lang/StringBuilder", name := "<init>", desc := "()V" } : Jvm.MethodName)) : Jvm.Cond).before a0 Z = true := hw _ (List.mem_of_getElem? (i := 45) rfl)
theorem w46 {Z : State} {a0 : Array Value} (hw : ∀ d ∈ tables_1, d.before a0 Z = true) : ((Jvm.Cond.instanceMethod ({ cls := "java/lang/StringBuilder", name := "<init>", desc := "()V" } : Jvm.MethodName)) : Jvm.Cond).before a0 Z = true := hw _ (List.mem_of_getElem? (i := 46) rfl)
theorem w47 {Z : State} {a0 : Array Value} (hw : ∀ d ∈ tables_1, d.before a0 Z = true) : ((Jvm.Cond.code ({ cls := "java/lang/StringBuilder", name := "<init>", desc := "()V" } : Jvm.MethodName) jdk_67_method_1_code (1 : Nat) (Option.none : Option Jvm.ClassFile.FieldType)) : Jvm.Cond).before a0 Z = true := hw _ (List.mem_of_getElem? (i := 47) rfl)
theorem w48 {Z : State} {a0 : Array Value} (hw : ∀ d ∈ tables_1, d.before a0 Z = true) : ((Jvm.Cond.methodLink "java/lang/StringBuilder" (1 : Nat) ({ cls := "java/lang/AbstractStringBuilder", name := "<init>", desc := "(I)V" } : Jvm.MethodName)) : Jvm.Cond).before a0 Z = true := hw _ (List.mem_of_getElem? (i := 48) rfl)
theorem w49 {Z : State} {a0 : Array Value} (hw : ∀ d ∈ tables_1, d.before a0 Z = true) : ((Jvm.Cond.instanceMethod ({ cls := "java/lang/AbstractStringBuilder", name := "<init>", desc := "(I)V" } : Jvm.MethodName)) : Jvm.Cond).before a0 Z = true := hw _ (List.mem_of_getElem? (i := 49) rfl)
theorem w51 {Z : State} {a0 : Array Value} (hw : ∀ d ∈ tables_1, d.before a0 Z = true) : ((Jvm.Cond.castable "java/lang/StringBuilder" "java/lang/AbstractStringBuilder") : Jvm.Cond).before a0 Z = true := hw _ (List.mem_of_getElem? (i := 51) rfl)
theorem w52 {Z : State} {a0 : Array Value} (hw : ∀ d ∈ tables_1, d.before a0 Z = true) : ((Jvm.Cond.initialized "java/lang/AbstractStringBuilder") : Jvm.Cond).before a0 Z = true := hw _ (List.mem_of_getElem? (i := 52) rfl)
theorem w53 {Z : State} {a0 : Array Value} (hw : ∀ d ∈ tables_1, d.before a0 Z = true) : ((Jvm.Cond.code ({ cls := "java/lang/AbstractStringBuilder", name := "<init>", desc := "(I)V" } : Jvm.MethodName) jdk_68_method_2_code (2 : Nat) (Option.none : Option Jvm.ClassFile.FieldType)) : Jvm.Cond).before a0 Z = true := hw _ (List.mem_of_getElem? (i := 53) rfl)
theorem w54 {Z : State} {a0 : Array Value} (hw : ∀ d ∈ tables_1, d.before a0 Z = true) : ((Jvm.Cond.methodLink "java/lang/AbstractStringBuilder" (3 : Nat) ({ cls := "java/lang/Object", name := "<init>", desc := "()V" } : Jvm.MethodName)) : Jvm.Cond).before a0 Z = true := hw _ (List.mem_of_getElem? (i := 54) rfl)
theorem w55 {Z : State} {a0 : Array Value} (hw : ∀ d ∈ tables_1, d.before a0 Z = true) : ((Jvm.Cond.fieldLink "java/lang/AbstractStringBuilder" (18 : Nat) "java/lang/String" "COMPACT_STRINGS" "Z") : Jvm.Cond).before a0 Z = true := hw _ (List.mem_of_getElem? (i := 55) rfl)
theorem w56 {Z : State} {a0 : Array Value} (hw : ∀ d ∈ tables_1, d.before a0 Z = true) : ((Jvm.Cond.fieldLink "java/lang/AbstractStringBuilder" (15 : Nat) "java/lang/AbstractStringBuilder" "value" "[B") : Jvm.Cond).before a0 Z = true := hw _ (List.mem_of_getElem? (i := 56) rfl)
theorem w57 {Z : State} {a0 : Array Value} (hw : ∀ d ∈ tables_1, d.before a0 Z = true) : ((Jvm.Cond.lays "java/lang/StringBuilder" "java/lang/AbstractStringBuilder" "value" "[B") : Jvm.Cond).before a0 Z = true := hw _ (List.mem_of_getElem? (i := 57) rfl)
theorem w58 {Z : State} {a0 : Array Value} (hw : ∀ d ∈ tables_1, d.before a0 Z = true) : ((Jvm.Cond.fieldLink "java/lang/AbstractStringBuilder" (22 : Nat) "java/lang/AbstractStringBuilder" "coder" "B") : Jvm.Cond).before a0 Z = true := hw _ (List.mem_of_getElem? (i := 58) rfl)
theorem w59 {Z : State} {a0 : Array Value} (hw : ∀ d ∈ tables_1, d.before a0 Z = true) : ((Jvm.Cond.lays "java/lang/StringBuilder" "java/lang/AbstractStringBuilder" "coder" "B") : Jvm.Cond).before a0 Z = true := hw _ (List.mem_of_getElem? (i := 59) rfl)
theorem w60 {Z : State} {a0 : Array Value} (hw : ∀ d ∈ tables_1, d.before a0 Z = true) : ((Jvm.Cond.methodLink "com/example/ranker/ranker/RunFile" (136 : Nat) ({ cls := "java/lang/StringBuilder", name := "append", desc := "(Ljava/lang/String;)Ljava/lang/StringBuilder;" } : Jvm.MethodName)) : Jvm.Cond).before a0 Z = true := hw _ (List.mem_of_getElem? (i := 60) rfl)
theorem w61 {Z : State} {a0 : Array Value} (hw : ∀ d ∈ tables_1, d.before a0 Z = true) : ((Jvm.Cond.declares ({ cls := "java/lang/StringBuilder", name := "append", desc := "(Ljava/lang/String;)Ljava/lang/StringBuilder;" } : Jvm.MethodName)) : Jvm.Cond).before a0 Z = true := hw _ (List.mem_of_getElem? (i := 61) rfl)
theorem w62 {Z : State} {a0 : Array Value} (hw : ∀ d ∈ tables_1, d.before a0 Z = true) : ((Jvm.Cond.instanceMethod ({ cls := "java/lang/StringBuilder", name := "append", desc := "(Ljava/lang/String;)Ljava/lang/StringBuilder;" } : Jvm.MethodName)) : Jvm.Cond).before a0 Z = true := hw _ (List.mem_of_getElem? (i := 62) rfl)
theorem w63 {Z : State} {a0 : Array Value} (hw : ∀ d ∈ tables_1, d.before a0 Z = true) : ((Jvm.Cond.selects "java/lang/StringBuilder" ({ cls := "java/lang/StringBuilder", name := "append", desc := "(Ljava/lang/String;)Ljava/lang/StringBuilder;" } : Jvm.MethodName) ({ cls := "java/lang/StringBuilder", name := "append", desc := "(Ljava/lang/String;)Ljava/lang/StringBuilder;" } : Jvm.MethodName)) : Jvm.Cond).before a0 Z = true := hw _ (List.mem_of_getElem? (i := 63) rfl)
theorem w64 {Z : State} {a0 : Array Value} (hw : ∀ d ∈ tables_1, d.before a0 Z = true) : ((Jvm.Cond.code ({ cls := "java/lang/StringBuilder", name := "append", desc := "(Ljava/lang/String;)Ljava/lang/StringBuilder;" } : Jvm.MethodName) jdk_67_method_7_code (2 : Nat) (Option.some (Jvm.ClassFile.FieldType.object "java/lang/StringBuilder"))) : Jvm.Cond).before a0 Z = true := hw _ (List.mem_of_getElem? (i := 64) rfl)
theorem w65 {Z : State} {a0 : Array Value} (hw : ∀ d ∈ tables_1, d.before a0 Z = true) : ((Jvm.Cond.methodLink "java/lang/StringBuilder" (29 : Nat) ({ cls := "java/lang/AbstractStringBuilder", name := "append", desc := "(Ljava/lang/String;)Ljava/lang/AbstractStringBuilder;" } : Jvm.MethodName)) : Jvm.Cond).before a0 Z = true := hw _ (List.mem_of_getElem? (i := 65) rfl)
theorem w66 {Z : State} {a0 : Array Value} (hw : ∀ d ∈ tables_1, d.before a0 Z = true) : ((Jvm.Cond.instanceMethod ({ cls := "java/lang/AbstractStringBuilder", name := "append", desc := "(Ljava/lang/String;)Ljava/lang/AbstractStringBuilder;" } : Jvm.MethodName)) : Jvm.Cond).before a0 Z = true := hw _ (List.mem_of_getElem? (i := 66) rfl)
theorem w67 {Z : State} {a0 : Array Value} (hw : ∀ d ∈ tables_1, d.before a0 Z = true) : ((Jvm.Cond.superclass "java/lang/StringBuilder" "java/lang/AbstractStringBuilder") : Jvm.Cond).before a0 Z = true := hw _ (List.mem_of_getElem? (i := 67) rfl)
theorem w69 {Z : State} {a0 : Array Value} (hw : ∀ d ∈ tables_1, d.before a0 Z = true) : ((Jvm.Cond.code ({ cls := "java/lang/AbstractStringBuilder", name := "append", desc := "(Ljava/lang/String;)Ljava/lang/AbstractStringBuilder;" } : Jvm.MethodName) jdk_68_method_22_code (3 : Nat) (Option.some (Jvm.ClassFile.FieldType.object "java/lang/AbstractStringBuilder"))) : Jvm.Cond).before a0 Z = true := hw _ (List.mem_of_getElem? (i := 69) rfl)
theorem w70 {Z : State} {a0 : Array Value} (hw : ∀ d ∈ tables_1, d.before a0 Z = true) : ((Jvm.Cond.methodLink "java/lang/AbstractStringBuilder" (32 : Nat) ({ cls := "java/lang/String", name := "length", desc := "()I" } : Jvm.MethodName)) : Jvm.Cond).before a0 Z = true := hw _ (List.mem_of_getElem? (i := 70) rfl)
theorem w71 {Z : State} {a0 : Array Value} (hw : ∀ d ∈ tables_1, d.before a0 Z = true) : ((Jvm.Cond.declares ({ cls := "java/lang/String", name := "length", desc := "()I" } : Jvm.MethodName)) : Jvm.Cond).before a0 Z = true := hw _ (List.mem_of_getElem? (i := 71) rfl)
theorem w72 {Z : State} {a0 : Array Value} (hw : ∀ d ∈ tables_1, d.before a0 Z = true) : ((Jvm.Cond.instanceMethod ({ cls := "java/lang/String", name := "length", desc := "()I" } : Jvm.MethodName)) : Jvm.Cond).before a0 Z = true := hw _ (List.mem_of_getElem? (i := 72) rfl)
theorem w73 {Z : State} {a0 : Array Value} (hw : ∀ d ∈ tables_1, d.before a0 Z = true) : ((Jvm.Cond.selects "java/lang/String" ({ cls := "java/lang/String", name := "length", desc := "()I" } : Jvm.MethodName) ({ cls := "java/lang/String", name := "length", desc := "()I" } : Jvm.MethodName)) : Jvm.Cond).before a0 Z = true := hw _ (List.mem_of_getElem? (i := 73) rfl)
theorem w74 {Z : State} {a0 : Array Value} (hw : ∀ d ∈ tables_1, d.before a0 Z = true) : ((Jvm.Cond.code ({ cls := "java/lang/String", name := "length", desc := "()I" } : Jvm.MethodName) jdk_42_method_54_code (1 : Nat) (Option.some Jvm.ClassFile.FieldType.int)) : Jvm.Cond).before a0 Z = true := hw _ (List.mem_of_getElem? (i := 74) rfl)
theorem w75 {Z : State} {a0 : Array Value} (hw : ∀ d ∈ tables_1, d.before a0 Z = true) : ((Jvm.Cond.methodLink "java/lang/String" (335 : Nat) ({ cls := "java/lang/String", name := "coder", desc := "()B" } : Jvm.MethodName)) : Jvm.Cond).before a0 Z = true := hw _ (List.mem_of_getElem? (i := 75) rfl)
theorem w76 {Z : State} {a0 : Array Value} (hw : ∀ d ∈ tables_1, d.before a0 Z = true) : ((Jvm.Cond.declares ({ cls := "java/lang/String", name := "coder", desc := "()B" } : Jvm.MethodName)) : Jvm.Cond).before a0 Z = true := hw _ (List.mem_of_getElem? (i := 76) rfl)
theorem w77 {Z : State} {a0 : Array Value} (hw : ∀ d ∈ tables_1, d.before a0 Z = true) : ((Jvm.Cond.instanceMethod ({ cls := "java/lang/String", name := "coder", desc := "()B" } : Jvm.MethodName)) : Jvm.Cond).before a0 Z = true := hw _ (List.mem_of_getElem? (i := 77) rfl)
theorem w78 {Z : State} {a0 : Array Value} (hw : ∀ d ∈ tables_1, d.before a0 Z = true) : ((Jvm.Cond.selects "java/lang/String" ({ cls := "java/lang/String", name := "coder", desc := "()B" } : Jvm.MethodName) ({ cls := "java/lang/String", name := "coder", desc := "()B" } : Jvm.MethodName)) : Jvm.Cond).before a0 Z = true := hw _ (List.mem_of_getElem? (i := 78) rfl)
theorem w79 {Z : State} {a0 : Array Value} (hw : ∀ d ∈ tables_1, d.before a0 Z = true) : ((Jvm.Cond.code ({ cls := "java/lang/String", name := "coder", desc := "()B" } : Jvm.MethodName) jdk_42_method_152_code (1 : Nat) (Option.some Jvm.ClassFile.FieldType.byte)) : Jvm.Cond).before a0 Z = true := hw _ (List.mem_of_getElem? (i := 79) rfl)
theorem w80 {Z : State} {a0 : Array Value} (hw : ∀ d ∈ tables_1, d.before a0 Z = true) : ((Jvm.Cond.fieldLink "java/lang/AbstractStringBuilder" (79 : Nat) "java/lang/AbstractStringBuilder" "count" "I") : Jvm.Cond).before a0 Z = true := hw _ (List.mem_of_getElem? (i := 80) rfl)
theorem w81 {Z : State} {a0 : Array Value} (hw : ∀ d ∈ tables_1, d.before a0 Z = true) : ((Jvm.Cond.lays "java/lang/StringBuilder" "java/lang/AbstractStringBuilder" "count" "I") : Jvm.Cond).before a0 Z = true := hw _ (List.mem_of_getElem? (i := 81) rfl)
theorem w82 {Z : State} {a0 : Array Value} (hw : ∀ d ∈ tables_1, d.before a0 Z = true) : ((Jvm.Cond.methodLink "java/lang/AbstractStringBuilder" (100 : Nat) ({ cls := "java/lang/AbstractStringBuilder", name := "ensureCapacityInternal", desc := "(I)V" } : Jvm.MethodName)) : Jvm.Cond).before a0 Z = true := hw _ (List.mem_of_getElem? (i := 82) rfl)
theorem w83 {Z : State} {a0 : Array Value} (hw : ∀ d ∈ tables_1, d.before a0 Z = true) : ((Jvm.Cond.instanceMethod ({ cls := "java/lang/AbstractStringBuilder", name := "ensureCapacityInternal", desc := "(I)V" } : Jvm.MethodName)) : Jvm.Cond).before a0 Z = true := hw _ (List.mem_of_getElem? (i := 83) rfl)
theorem w84 {Z : State} {a0 : Array Value} (hw : ∀ d ∈ tables_1, d.before a0 Z = true) : ((Jvm.Cond.privateMethod ({ cls := "java/lang/AbstractStringBuilder", name := "ensureCapacityInternal", desc := "(I)V" } : Jvm.MethodName)) : Jvm.Cond).before a0 Z = true := hw _ (List.mem_of_getElem? (i := 84) rfl)
theorem w85 {Z : State} {a0 : Array Value} (hw : ∀ d ∈ tables_1, d.before a0 Z = true) : ((Jvm.Cond.selects "java/lang/StringBuilder" ({ cls := "java/lang/AbstractStringBuilder", name := "ensureCapacityInternal", desc := "(I)V" } : Jvm.MethodName) ({ cls := "java/lang/AbstractStringBuilder", name := "ensureCapacityInternal", desc := "(I)V" } : Jvm.MethodName)) : Jvm.Cond).before a0 Z = true := hw _ (List.mem_of_getElem? (i := 85) rfl)
theorem w86 {Z : State} {a0 : Array Value} (hw : ∀ d ∈ tables_1, d.before a0 Z = true) : ((Jvm.Cond.code ({ cls := "java/lang/AbstractStringBuilder", name := "ensureCapacityInternal", desc := "(I)V" } : Jvm.MethodName) jdk_68_method_9_code (3 : Nat) (Option.none : Option Jvm.ClassFile.FieldType)) : Jvm.Cond).before a0 Z = true := hw _ (List.mem_of_getElem? (i := 86) rfl)
theorem w87 {Z : State} {a0 : Array Value} (hw : ∀ d ∈ tables_1, d.before a0 Z = true) : ((Jvm.Cond.methodLink "java/lang/AbstractStringBuilder" (208 : Nat) ({ cls := "java/lang/AbstractStringBuilder", name := "putStringAt", desc := "(ILjava/lang/String;)V" } : Jvm.MethodName)) : Jvm.Cond).before a0 Z = true := hw _ (List.mem_of_getElem? (i := 87) rfl)
theorem w88 {Z : State} {a0 : Array Value} (hw : ∀ d ∈ tables_1, d.before a0 Z = true) : ((Jvm.Cond.instanceMethod ({ cls := "java/lang/AbstractStringBuilder", name := "putStringAt", desc := "(ILjava/lang/String;)V" } : Jvm.MethodName)) : Jvm.Cond).before a0 Z = true := hw _ (List.mem_of_getElem? (i := 88) rfl)
theorem w89 {Z : State} {a0 : Array Value} (hw : ∀ d ∈ tables_1, d.before a0 Z = true) : ((Jvm.Cond.privateMethod ({ cls := "java/lang/AbstractStringBuilder", name := "putStringAt", desc := "(ILjava/lang/String;)V" } : Jvm.MethodName)) : Jvm.Cond).before a0 Z = true := hw _ (List.mem_of_getElem? (i := 89) rfl)
theorem w90 {Z : State} {a0 : Array Value} (hw : ∀ d ∈ tables_1, d.before a0 Z = true) : ((Jvm.Cond.selects "java/lang/StringBuilder" ({ cls := "java/lang/AbstractStringBuilder", name := "putStringAt", desc := "(ILjava/lang/String;)V" } : Jvm.MethodName) ({ cls := "java/lang/AbstractStringBuilder", name := "putStringAt", desc := "(ILjava/lang/String;)V" } : Jvm.MethodName)) : Jvm.Cond).before a0 Z = true := hw _ (List.mem_of_getElem? (i := 90) rfl)
theorem w91 {Z : State} {a0 : Array Value} (hw : ∀ d ∈ tables_1, d.before a0 Z = true) : ((Jvm.Cond.code ({ cls := "java/lang/AbstractStringBuilder", name := "putStringAt", desc := "(ILjava/lang/String;)V" } : Jvm.MethodName) jdk_68_method_73_code (3 : Nat) (Option.none : Option Jvm.ClassFile.FieldType)) : Jvm.Cond).before a0 Z = true := hw _ (List.mem_of_getElem? (i := 91) rfl)
theorem w92 {Z : State} {a0 : Array Value} (hw : ∀ d ∈ tables_1, d.before a0 Z = true) : ((Jvm.Cond.methodLink "java/lang/AbstractStringBuilder" (397 : Nat) ({ cls := "java/lang/AbstractStringBuilder", name := "inflateIfNeededFor", desc := "(Ljava/lang/String;)V" } : Jvm.MethodName)) : Jvm.Cond).before a0 Z = true := hw _ (List.mem_of_getElem? (i := 92) rfl)
theorem w93 {Z : State} {a0 : Array Value} (hw : ∀ d ∈ tables_1, d.before a0 Z = true) : ((Jvm.Cond.instanceMethod ({ cls := "java/lang/AbstractStringBuilder", name := "inflateIfNeededFor", desc := "(Ljava/lang/String;)V" } : Jvm.MethodName)) : Jvm.Cond).before a0 Z = true := hw _ (List.mem_of_getElem? (i := 93) rfl)
theorem w94 {Z : State} {a0 : Array Value} (hw : ∀ d ∈ tables_1, d.before a0 Z = true) : ((Jvm.Cond.privateMethod ({ cls := "java/lang/AbstractStringBuilder", name := "inflateIfNeededFor", desc := "(Ljava/lang/String;)V" } : Jvm.MethodName)) : Jvm.Cond).before a0 Z = true := hw _ (List.mem_of_getElem? (i := 94) rfl)
theorem w95 {Z : State} {a0 : Array Value} (hw : ∀ d ∈ tables_1, d.before a0 Z = true) : ((Jvm.Cond.selects "java/lang/StringBuilder" ({ cls := "java/lang/AbstractStringBuilder", name := "inflateIfNeededFor", desc := "(Ljava/lang/String;)V" } : Jvm.MethodName) ({ cls := "java/lang/AbstractStringBuilder", name := "inflateIfNeededFor", desc := "(Ljava/lang/String;)V" } : Jvm.MethodName)) : Jvm.Cond).before a0 Z = true := hw _ (List.mem_of_getElem? (i := 95) rfl)
theorem w96 {Z : State} {a0 : Array Value} (hw : ∀ d ∈ tables_1, d.before a0 Z = true) : ((Jvm.Cond.code ({ cls := "java/lang/AbstractStringBuilder", name := "inflateIfNeededFor", desc := "(Ljava/lang/String;)V" } : Jvm.MethodName) jdk_68_method_71_code (2 : Nat) (Option.none : Option Jvm.ClassFile.FieldType)) : Jvm.Cond).before a0 Z = true := hw _ (List.mem_of_getElem? (i := 96) rfl)
theorem w97 {Z : State} {a0 : Array Value} (hw : ∀ d ∈ tables_1, d.before a0 Z = true) : ((Jvm.Cond.methodLink "java/lang/AbstractStringBuilder" (40 : Nat) ({ cls := "java/lang/String", name := "coder", desc := "()B" } : Jvm.MethodName)) : Jvm.Cond).before a0 Z = true := hw _ (List.mem_of_getElem? (i := 97) rfl)
theorem w98 {Z : State} {a0 : Array Value} (hw : ∀ d ∈ tables_1, d.before a0 Z = true) : ((Jvm.Cond.methodLink "java/lang/AbstractStringBuilder" (399 : Nat) ({ cls := "java/lang/String", name := "getBytes", desc := "([BIB)V" } : Jvm.MethodName)) : Jvm.Cond).before a0 Z = true := hw _ (List.mem_of_getElem? (i := 98) rfl)
theorem w99 {Z : State} {a0 : Array Value} (hw : ∀ d ∈ tables_1, d.before a0 Z = true) : ((Jvm.Cond.declares ({ cls := "java/lang/String", name := "getBytes", desc := "([BIB)V" } : Jvm.MethodName)) : Jvm.Cond).before a0 Z = true := hw _ (List.mem_of_getElem? (i := 99) rfl)
theorem w100 {Z : State} {a0 : Array Value} (hw : ∀ d ∈ tables_1, d.before a0 Z = true) : ((Jvm.Cond.instanceMethod ({ cls := "java/lang/String", name := "getBytes", desc := "([BIB)V" } : Jvm.MethodName)) : Jvm.Cond).before a0 Z = true := hw _ (List.mem_of_getElem? (i := 100) rfl)
theorem w101 {Z : State} {a0 : Array Value} (hw : ∀ d ∈ tables_1, d.before a0 Z = true) : ((Jvm.Cond.selects "java/lang/String" ({ cls := "java/lang/String", name := "getBytes", desc := "([BIB)V" } : Jvm.MethodName) ({ cls := "java/lang/String", name := "getBytes", desc := "([BIB)V" } : Jvm.MethodName)) : Jvm.Cond).before a0 Z = true := hw _ (List.mem_of_getElem? (i := 101) rfl)
theorem w102 {Z : State} {a0 : Array Value} (hw : ∀ d ∈ tables_1, d.before a0 Z = true) : ((Jvm.Cond.code ({ cls := "java/lang/String", name := "getBytes", desc := "([BIB)V" } : Jvm.MethodName) jdk_42_method_147_code (4 : Nat) (Option.none : Option Jvm.ClassFile.FieldType)) : Jvm.Cond).before a0 Z = true := hw _ (List.mem_of_getElem? (i := 102) rfl)
theorem w103 {Z : State} {a0 : Array Value} (hw : ∀ d ∈ tables_1, d.before a0 Z = true) : ((Jvm.Cond.methodLink "java/lang/String" (212 : Nat) ({ cls := "java/lang/System", name := "arraycopy", desc := "(Ljava/lang/Object;ILjava/lang/Object;II)V" } : Jvm.MethodName)) : Jvm.Cond).before a0 Z = true := hw _ (List.mem_of_getElem? (i := 103) rfl)
theorem w104 {Z : State} {a0 : Array Value} (hw : ∀ d ∈ tables_1, d.before a0 Z = true) : ((Jvm.Cond.static ({ cls := "java/lang/System", name := "arraycopy", desc := "(Ljava/lang/Object;ILjava/lang/Object;II)V" } : Jvm.MethodName)) : Jvm.Cond).before a0 Z = true := hw _ (List.mem_of_getElem? (i := 104) rfl)
theorem w105 {Z : State} {a0 : Array Value} (hw : ∀ d ∈ tables_1, d.before a0 Z = true) : ((Jvm.Cond.initialized "java/lang/System") : Jvm.Cond).before a0 Z = true := hw _ (List.mem_of_getElem? (i := 105) rfl)
theorem w106 {Z : State} {a0 : Array Value} (hw : ∀ d ∈ tables_1, d.before a0 Z = true) : ((Jvm.Cond.native ({ cls := "java/lang/System", name := "arraycopy", desc := "(Ljava/lang/Object;ILjava/lang/Object;II)V" } : Jvm.MethodName)) : Jvm.Cond).before a0 Z = true := hw _ (List.mem_of_getElem? (i := 106) rfl)
theorem w107 {Z : State} {a0 : Array Value} (hw : ∀ d ∈ tables_1, d.before a0 Z = true) : ((Jvm.Cond.stringLink "com/example/ranker/ranker/RunFile" (233 : Nat) " Q0 ") : Jvm.Cond).before a0 Z = true := hw _ (List.mem_of_getElem? (i := 107) rfl)
theorem w108 {Z : State} {a0 : Array Value} (hw : ∀ d ∈ tables_1, d.before a0 Z = true) : ((Jvm.Cond.stringLink "com/example/ranker/ranker/RunFile" (161 : Nat) " ") : Jvm.Cond).before a0 Z = true := hw _ (List.mem_of_getElem? (i := 108) rfl)
theorem w109 {Z : State} {a0 : Array Value} (hw : ∀ d ∈ tables_1, d.before a0 Z = true) : ((Jvm.Cond.methodLink "com/example/ranker/ranker/RunFile" (235 : Nat) ({ cls := "java/lang/StringBuilder", name := "append", desc := "(I)Ljava/lang/StringBuilder;" } : Jvm.MethodName)) : Jvm.Cond).before a0 Z = true := hw _ (List.mem_of_getElem? (i := 109) rfl)
theorem w110 {Z : State} {a0 : Array Value} (hw : ∀ d ∈ tables_1, d.before a0 Z = true) : ((Jvm.Cond.declares ({ cls := "java/lang/StringBuilder", name := "append", desc := "(I)Ljava/lang/StringBuilder;" } : Jvm.MethodName)) : Jvm.Cond).before a0 Z = true := hw _ (List.mem_of_getElem? (i := 110) rfl)
theorem w111 {Z : State} {a0 : Array Value} (hw : ∀ d ∈ tables_1, d.before a0 Z = true) : ((Jvm.Cond.instanceMethod ({ cls := "java/lang/StringBuilder", name := "append", desc := "(I)Ljava/lang/StringBuilder;" } : Jvm.MethodName)) : Jvm.Cond).before a0 Z = true := hw _ (List.mem_of_getElem? (i := 111) rfl)
theorem w112 {Z : State} {a0 : Array Value} (hw : ∀ d ∈ tables_1, d.before a0 Z = true) : ((Jvm.Cond.selects "java/lang/StringBuilder" ({ cls := "java/lang/StringBuilder", name := "append", desc := "(I)Ljava/lang/StringBuilder;" } : Jvm.MethodName) ({ cls := "java/lang/StringBuilder", name := "append", desc := "(I)Ljava/lang/StringBuilder;" } : Jvm.MethodName)) : Jvm.Cond).before a0 Z = true := hw _ (List.mem_of_getElem? (i := 112) rfl)
theorem w113 {Z : State} {a0 : Array Value} (hw : ∀ d ∈ tables_1, d.before a0 Z = true) : ((Jvm.Cond.code ({ cls := "java/lang/StringBuilder", name := "append", desc := "(I)Ljava/lang/StringBuilder;" } : Jvm.MethodName) jdk_67_method_15_code (2 : Nat) (Option.some (Jvm.ClassFile.FieldType.object "java/lang/StringBuilder"))) : Jvm.Cond).before a0 Z = true := hw _ (List.mem_of_getElem? (i := 113) rfl)
theorem w114 {Z : State} {a0 : Array Value} (hw : ∀ d ∈ tables_1, d.before a0 Z = true) : ((Jvm.Cond.methodLink "java/lang/StringBuilder" (53 : Nat) ({ cls := "java/lang/AbstractStringBuilder", name := "append", desc := "(I)Ljava/lang/AbstractStringBuilder;" } : Jvm.MethodName)) : Jvm.Cond).before a0 Z = true := hw _ (List.mem_of_getElem? (i := 114) rfl)
theorem w115 {Z : State} {a0 : Array Value} (hw : ∀ d ∈ tables_1, d.before a0 Z = true) : ((Jvm.Cond.instanceMethod ({ cls := "java/lang/AbstractStringBuilder", name := "append", desc := "(I)Ljava/lang/AbstractStringBuilder;" } : Jvm.MethodName)) : Jvm.Cond).before a0 Z = true := hw _ (List.mem_of_getElem? (i := 115) rfl)
theorem w117 {Z : State} {a0 : Array Value} (hw : ∀ d ∈ tables_1, d.before a0 Z = true) : ((Jvm.Cond.code ({ cls := "java/lang/AbstractStringBuilder", name := "append", desc := "(I)Ljava/lang/AbstractStringBuilder;" } : Jvm.MethodName) jdk_68_method_32_code (4 : Nat) (Option.some (Jvm.ClassFile.FieldType.object "java/lang/AbstractStringBuilder"))) : Jvm.Cond).before a0 Z = true := hw _ (List.mem_of_getElem? (i := 117) rfl)
theorem w118 {Z : State} {a0 : Array Value} (hw : ∀ d ∈ tables_1, d.before a0 Z = true) : ((Jvm.Cond.methodLink "java/lang/AbstractStringBuilder" (245 : Nat) ({ cls := "java/lang/Integer", name := "stringSize", desc := "(I)I" } : Jvm.MethodName)) : Jvm.Cond).before a0 Z = true := hw _ (List.mem_of_getElem? (i := 118) rfl)
theorem w119 {Z : State} {a0 : Array Value} (hw : ∀ d ∈ tables_1, d.before a0 Z = true) : ((Jvm.Cond.static ({ cls := "java/lang/Integer", name := "stringSize", desc := "(I)I" } : Jvm.MethodName)) : Jvm.Cond).before a0 Z = true := hw _ (List.mem_of_getElem? (i := 119) rfl)
theorem w120 {Z : State} {a0 : Array Value} (hw : ∀ d ∈ tables_1, d.before a0 Z = true) : ((Jvm.Cond.initialized "java/lang/Integer") : Jvm.Cond).before a0 Z = true := hw _ (List.mem_of_getElem? (i := 120) rfl)
theorem w121 {Z : State} {a0 : Array Value} (hw : ∀ d ∈ tables_1, d.before a0 Z = true) : ((Jvm.Cond.code ({ cls := "java/lang/Integer", name := "stringSize", desc := "(I)I" } : Jvm.MethodName) jdk_33_method_13_code (4 : Nat) (Option.some Jvm.ClassFile.FieldType.int)) : Jvm.Cond).before a0 Z = true := hw _ (List.mem_of_getElem? (i := 121) rfl)
theorem w122 {Z : State} {a0 : Array Value} (hw : ∀ d ∈ tables_1, d.before a0 Z = true) : ((Jvm.Cond.methodLink "java/lang/AbstractStringBuilder" (83 : Nat) ({ cls := "java/lang/AbstractStringBuilder", name := "isLatin1", desc := "()Z" } : Jvm.MethodName)) : Jvm.Cond).before a0 Z = true := hw _ (List.mem_of_getElem? (i := 122) rfl)
theorem w123 {Z : State} {a0 : Array Value} (hw : ∀ d ∈ tables_1, d.before a0 Z = true) : ((Jvm.Cond.declares ({ cls := "java/lang/AbstractStringBuilder", name := "isLatin1", desc := "()Z" } : Jvm.MethodName)) : Jvm.Cond).before a0 Z = true := hw _ (List.mem_of_getElem? (i := 123) rfl)
theorem w124 {Z : State} {a0 : Array Value} (hw : ∀ d ∈ tables_1, d.before a0 Z = true) : ((Jvm.Cond.instanceMethod ({ cls := "java/lang/AbstractStringBuilder", name := "isLatin1", desc := "()Z" } : Jvm.MethodName)) : Jvm.Cond).before a0 Z = true := hw _ (List.mem_of_getElem? (i := 124) rfl)
theorem w125 {Z : State} {a0 : Array Value} (hw : ∀ d ∈ tables_1, d.before a0 Z = true) : ((Jvm.Cond.selects "java/lang/StringBuilder" ({ cls := "java/lang/AbstractStringBuilder", name := "isLatin1", desc := "()Z" } : Jvm.MethodName) ({ cls := "java/lang/AbstractStringBuilder", name := "isLatin1", desc := "()Z" } : Jvm.MethodName)) : Jvm.Cond).before a0 Z = true := hw _ (List.mem_of_getElem? (i := 125) rfl)
theorem w126 {Z : State} {a0 : Array Value} (hw : ∀ d ∈ tables_1, d.before a0 Z = true) : ((Jvm.Cond.code ({ cls := "java/lang/AbstractStringBuilder", name := "isLatin1", desc := "()Z" } : Jvm.MethodName) jdk_68_method_68_code (1 : Nat) (Option.some Jvm.ClassFile.FieldType.boolean)) : Jvm.Cond).before a0 Z = true := hw _ (List.mem_of_getElem? (i := 126) rfl)
theorem w127 {Z : State} {a0 : Array Value} (hw : ∀ d ∈ tables_1, d.before a0 Z = true) : ((Jvm.Cond.methodLink "java/lang/AbstractStringBuilder" (248 : Nat) ({ cls := "java/lang/Integer", name := "getChars", desc := "(II[B)I" } : Jvm.MethodName)) : Jvm.Cond).before a0 Z = true := hw _ (List.mem_of_getElem? (i := 127) rfl)
theorem w128 {Z : State} {a0 : Array Value} (hw : ∀ d ∈ tables_1, d.before a0 Z = true) : ((Jvm.Cond.static ({ cls := "java/lang/Integer", name := "getChars", desc := "(II[B)I" } : Jvm.MethodName)) : Jvm.Cond).before a0 Z = true := hw _ (List.mem_of_getElem? (i := 128) rfl)
theorem w129 {Z : State} {a0 : Array Value} (hw : ∀ d ∈ tables_1, d.before a0 Z = true) : ((Jvm.Cond.code ({ cls := "java/lang/Integer", name := "getChars", desc := "(II[B)I" } : Jvm.MethodName) jdk_33_method_12_code (7 : Nat) (Option.some Jvm.ClassFile.FieldType.int)) : Jvm.Cond).before a0 Z = true := hw _ (List.mem_of_getElem? (i := 129) rfl)
theorem w130 {Z : State} {a0 : Array Value} (hw : ∀ d ∈ tables_1, d.before a0 Z = true) : ((Jvm.Cond.fieldLink "java/lang/Integer" (83 : Nat) "java/lang/Integer" "DigitOnes" "[B") : Jvm.Cond).before a0 Z = true := hw _ (List.mem_of_getElem? (i := 130) rfl)
theorem w131 {Z : State} {a0 : Array Value} (hw : ∀ d ∈ tables_1, d.before a0 Z = true) : ((Jvm.Cond.methodLink "com/example/ranker/ranker/RunFile" (140 : Nat) ({ cls := "java/lang/StringBuilder", name := "toString", desc := "()Ljava/lang/String;" } : Jvm.MethodName)) : Jvm.Cond).before a0 Z = true := hw _ (List.mem_of_getElem? (i := 131) rfl)
theorem w132 {Z : State} {a0 : Array Value} (hw : ∀ d ∈ tables_1, d.before a0 Z = true) : ((Jvm.Cond.declares ({ cls := "java/lang/StringBuilder", name := "toString", desc := "()Ljava/lang/String;" } : Jvm.MethodName)) : Jvm.Cond).before a0 Z = true := hw _ (List.mem_of_getElem? (i := 132) rfl)
theorem w133 {Z : State} {a0 : Array Value} (hw : ∀ d ∈ tables_1, d.before a0 Z = true) : ((Jvm.Cond.instanceMethod ({ cls := "java/lang/StringBuilder", name := "toString", desc := "()Ljava/lang/String;" } : Jvm.MethodName)) : Jvm.Cond).before a0 Z = true := hw _ (List.mem_of_getElem? (i := 133) rfl)
theorem w134 {Z : State} {a0 : Array Value} (hw : ∀ d ∈ tables_1, d.before a0 Z = true) : ((Jvm.Cond.selects "java/lang/StringBuilder" ({ cls := "java/lang/StringBuilder", name := "toString", desc := "()Ljava/lang/String;" } : Jvm.MethodName) ({ cls := "java/lang/StringBuilder", name := "toString", desc := "()Ljava/lang/String;" } : Jvm.MethodName)) : Jvm.Cond).before a0 Z = true := hw _ (List.mem_of_getElem? (i := 134) rfl)
theorem w135 {Z : State} {a0 : Array Value} (hw : ∀ d ∈ tables_1, d.before a0 Z = true) : ((Jvm.Cond.code ({ cls := "java/lang/StringBuilder", name := "toString", desc := "()Ljava/lang/String;" } : Jvm.MethodName) jdk_67_method_42_code (1 : Nat) (Option.some (Jvm.ClassFile.FieldType.object "java/lang/String"))) : Jvm.Cond).before a0 Z = true := hw _ (List.mem_of_getElem? (i := 135) rfl)
theorem w136 {Z : State} {a0 : Array Value} (hw : ∀ d ∈ tables_1, d.before a0 Z = true) : ((Jvm.Cond.classLink "java/lang/StringBuilder" (18 : Nat) "java/lang/String") : Jvm.Cond).before a0 Z = true := hw _ (List.mem_of_getElem? (i := 136) rfl)
theorem w137 {Z : State} {a0 : Array Value} (hw : ∀ d ∈ tables_1, d.before a0 Z = true) : ((Jvm.Cond.methodLink "java/lang/StringBuilder" (137 : Nat) ({ cls := "java/lang/String", name := "<init>", desc := "(Ljava/lang/StringBuilder;)V" } : Jvm.MethodName)) : Jvm.Cond).before a0 Z = true := hw _ (List.mem_of_getElem? (i := 137) rfl)
theorem w138 {Z : State} {a0 : Array Value} (hw : ∀ d ∈ tables_1, d.before a0 Z = true) : ((Jvm.Cond.instanceMethod ({ cls := "java/lang/String", name := "<init>", desc := "(Ljava/lang/StringBuilder;)V" } : Jvm.MethodName)) : Jvm.Cond).before a0 Z = true := hw _ (List.mem_of_getElem? (i := 138) rfl)
theorem w139 {Z : State} {a0 : Array Value} (hw : ∀ d ∈ tables_1, d.before a0 Z = true) : ((Jvm.Cond.code ({ cls := "java/lang/String", name := "<init>", desc := "(Ljava/lang/StringBuilder;)V" } : Jvm.MethodName) jdk_42_method_53_code (2 : Nat) (Option.none : Option Jvm.ClassFile.FieldType)) : Jvm.Cond).before a0 Z = true := hw _ (List.mem_of_getElem? (i := 139) rfl)
theorem w140 {Z : State} {a0 : Array Value} (hw : ∀ d ∈ tables_1, d.before a0 Z = true) : ((Jvm.Cond.methodLink "java/lang/String" (489 : Nat) ({ cls := "java/lang/String", name := "<init>", desc := "(Ljava/lang/AbstractStringBuilder;Ljava/lang/Void;)V" } : Jvm.MethodName)) : Jvm.Cond).before a0 Z = true := hw _ (List.mem_of_getElem? (i := 140) rfl)
theorem w141 {Z : State} {a0 : Array Value} (hw : ∀ d ∈ tables_1, d.before a0 Z = true) : ((Jvm.Cond.instanceMethod ({ cls := "java/lang/String", name := "<init>", desc := "(Ljava/lang/AbstractStringBuilder;Ljava/lang/Void;)V" } : Jvm.MethodName)) : Jvm.Cond).before a0 Z = true := hw _ (List.mem_of_getElem? (i := 141) rfl)
theorem w142 {Z : State} {a0 : Array Value} (hw : ∀ d ∈ tables_1, d.before a0 Z = true) : ((Jvm.Cond.code ({ cls := "java/lang/String", name := "<init>", desc := "(Ljava/lang/AbstractStringBuilder;Ljava/lang/Void;)V" } : Jvm.MethodName) jdk_42_method_150_code (5 : Nat) (Option.none : Option Jvm.ClassFile.FieldType)) : Jvm.Cond).before a0 Z = true := hw _ (List.mem_of_getElem? (i := 142) rfl)
theorem w143 {Z : State} {a0 : Array Value} (hw : ∀ d ∈ tables_1, d.before a0 Z = true) : ((Jvm.Cond.methodLink "java/lang/String" (552 : Nat) ({ cls := "java/lang/AbstractStringBuilder", name := "getValue", desc := "()[B" } : Jvm.MethodName)) : Jvm.Cond).before a0 Z = true := hw _ (List.mem_of_getElem? (i := 143) rfl)
theorem w144 {Z : State} {a0 : Array Value} (hw : ∀ d ∈ tables_1, d.before a0 Z = true) : ((Jvm.Cond.declares ({ cls := "java/lang/AbstractStringBuilder", name := "getValue", desc := "()[B" } : Jvm.MethodName)) : Jvm.Cond).before a0 Z = true := hw _ (List.mem_of_getElem? (i := 144) rfl)
theorem w145 {Z : State} {a0 : Array Value} (hw : ∀ d ∈ tables_1, d.before a0 Z = true) : ((Jvm.Cond.instanceMethod ({ cls := "java/lang/AbstractStringBuilder", name := "getValue", desc := "()[B" } : Jvm.MethodName)) : Jvm.Cond).before a0 Z = true := hw _ (List.mem_of_getElem? (i := 145) rfl)
theorem w146 {Z : State} {a0 : Array Value} (hw : ∀ d ∈ tables_1, d.before a0 Z = true) : ((Jvm.Cond.selects "java/lang/StringBuilder" ({ cls := "java/lang/AbstractStringBuilder", name := "getValue", desc := "()[B" } : Jvm.MethodName) ({ cls := "java/lang/AbstractStringBuilder", name := "getValue", desc := "()[B" } : Jvm.MethodName)) : Jvm.Cond).before a0 Z = true := hw _ (List.mem_of_getElem? (i := 146) rfl)
theorem w147 {Z : State} {a0 : Array Value} (hw : ∀ d ∈ tables_1, d.before a0 Z = true) : ((Jvm.Cond.code ({ cls := "java/lang/AbstractStringBuilder", name := "getValue", desc := "()[B" } : Jvm.MethodName) jdk_68_method_64_code (1 : Nat) (Option.some (Jvm.ClassFile.FieldType.array Jvm.ClassFile.FieldType.byte))) : Jvm.Cond).before a0 Z = true := hw _ (List.mem_of_getElem? (i := 147) rfl)
theorem w148 {Z : State} {a0 : Array Value} (hw : ∀ d ∈ tables_1, d.before a0 Z = true) : ((Jvm.Cond.methodLink "java/lang/String" (549 : Nat) ({ cls := "java/lang/AbstractStringBuilder", name := "length", desc := "()I" } : Jvm.MethodName)) : Jvm.Cond).before a0 Z = true := hw _ (List.mem_of_getElem? (i := 148) rfl)
theorem w149 {Z : State} {a0 : Array Value} (hw : ∀ d ∈ tables_1, d.before a0 Z = true) : ((Jvm.Cond.declares ({ cls := "java/lang/AbstractStringBuilder", name := "length", desc := "()I" } : Jvm.MethodName)) : Jvm.Cond).before a0 Z = true := hw _ (List.mem_of_getElem? (i := 149) rfl)
theorem w150 {Z : State} {a0 : Array Value} (hw : ∀ d ∈ tables_1, d.before a0 Z = true) : ((Jvm.Cond.instanceMethod ({ cls := "java/lang/AbstractStringBuilder", name := "length", desc := "()I" } : Jvm.MethodName)) : Jvm.Cond).before a0 Z = true := hw _ (List.mem_of_getElem? (i := 150) rfl)
theorem w151 {Z : State} {a0 : Array Value} (hw : ∀ d ∈ tables_1, d.before a0 Z = true) : ((Jvm.Cond.selects "java/lang/StringBuilder" ({ cls := "java/lang/AbstractStringBuilder", name := "length", desc := "()I" } : Jvm.MethodName) ({ cls := "java/lang/StringBuilder", name := "length", desc := "()I" } : Jvm.MethodName)) : Jvm.Cond).before a0 Z = true := hw _ (List.mem_of_getElem? (i := 151) rfl)
theorem w152 {Z : State} {a0 : Array Value} (hw : ∀ d ∈ tables_1, d.before a0 Z = true) : ((Jvm.Cond.instanceMethod ({ cls := "java/lang/StringBuilder", name := "length", desc := "()I" } : Jvm.MethodName)) : Jvm.Cond).before a0 Z = true := hw _ (List.mem_of_getElem? (i := 152) rfl)
theorem w153 {Z : State} {a0 : Array Value} (hw : ∀ d ∈ tables_1, d.before a0 Z = true) : ((Jvm.Cond.code ({ cls := "java/lang/StringBuilder", name := "length", desc := "()I" } : Jvm.MethodName) jdk_67_method_93_code (1 : Nat) (Option.some Jvm.ClassFile.FieldType.int)) : Jvm.Cond).before a0 Z = true := hw _ (List.mem_of_getElem? (i := 153) rfl)
theorem w154 {Z : State} {a0 : Array Value} (hw : ∀ d ∈ tables_1, d.before a0 Z = true) : ((Jvm.Cond.methodLink "java/lang/StringBuilder" (343 : Nat) ({ cls := "java/lang/AbstractStringBuilder", name := "length", desc := "()I" } : Jvm.MethodName)) : Jvm.Cond).before a0 Z = true := hw _ (List.mem_of_getElem? (i := 154) rfl)
theorem w155 {Z : State} {a0 : Array Value} (hw : ∀ d ∈ tables_1, d.before a0 Z = true) : ((Jvm.Cond.code ({ cls := "java/lang/AbstractStringBuilder", name := "length", desc := "()I" } : Jvm.MethodName) jdk_68_method_6_code (1 : Nat) (Option.some Jvm.ClassFile.FieldType.int)) : Jvm.Cond).before a0 Z = true := hw _ (List.mem_of_getElem? (i := 155) rfl)
theorem w156 {Z : State} {a0 : Array Value} (hw : ∀ d ∈ tables_1, d.before a0 Z = true) : ((Jvm.Cond.methodLink "java/lang/String" (1047 : Nat) ({ cls := "java/lang/AbstractStringBuilder", name := "isLatin1", desc := "()Z" } : Jvm.MethodName)) : Jvm.Cond).before a0 Z = true := hw _ (List.mem_of_getElem? (i := 156) rfl)
theorem w157 {Z : State} {a0 : Array Value} (hw : ∀ d ∈ tables_1, d.before a0 Z = true) : ((Jvm.Cond.methodLink "java/lang/String" (54 : Nat) ({ cls := "java/util/Arrays", name := "copyOfRange", desc := "([BII)[B" } : Jvm.MethodName)) : Jvm.Cond).before a0 Z = true := hw _ (List.mem_of_getElem? (i := 157) rfl)
theorem w158 {Z : State} {a0 : Array Value} (hw : ∀ d ∈ tables_1, d.before a0 Z = true) : ((Jvm.Cond.static ({ cls := "java/util/Arrays", name := "copyOfRange", desc := "([BII)[B" } : Jvm.MethodName)) : Jvm.Cond).before a0 Z = true := hw _ (List.mem_of_getElem? (i := 158) rfl)
theorem w159 {Z : State} {a0 : Array Value} (hw : ∀ d ∈ tables_1, d.before a0 Z = true) : ((Jvm.Cond.initialized "java/util/Arrays") : Jvm.Cond).before a0 Z = true := hw _ (List.mem_of_getElem? (i := 159) rfl)
theorem w160 {Z : State} {a0 : Array Value} (hw : ∀ d ∈ tables_1, d.before a0 Z = true) : ((Jvm.Cond.code ({ cls := "java/util/Arrays", name := "copyOfRange", desc := "([BII)[B" } : Jvm.MethodName) jdk_65_method_132_code (3 : Nat) (Option.some (Jvm.ClassFile.FieldType.array Jvm.ClassFile.FieldType.byte))) : Jvm.Cond).before a0 Z = true := hw _ (List.mem_of_getElem? (i := 160) rfl)
theorem w161 {Z : State} {a0 : Array Value} (hw : ∀ d ∈ tables_1, d.before a0 Z = true) : ((Jvm.Cond.methodLink "java/util/Arrays" (339 : Nat) ({ cls := "java/util/Arrays", name := "copyOfRangeByte", desc := "([BII)[B" } : Jvm.MethodName)) : Jvm.Cond).before a0 Z = true := hw _ (List.mem_of_getElem? (i := 161) rfl)
theorem w162 {Z : State} {a0 : Array Value} (hw : ∀ d ∈ tables_1, d.before a0 Z = true) : ((Jvm.Cond.static ({ cls := "java/util/Arrays", name := "copyOfRangeByte", desc := "([BII)[B" } : Jvm.MethodName)) : Jvm.Cond).before a0 Z = true := hw _ (List.mem_of_getElem? (i := 162) rfl)
theorem w163 {Z : State} {a0 : Array Value} (hw : ∀ d ∈ tables_1, d.before a0 Z = true) : ((Jvm.Cond.code ({ cls := "java/util/Arrays", name := "copyOfRangeByte", desc := "([BII)[B" } : Jvm.MethodName) jdk_65_method_133_code (5 : Nat) (Option.some (Jvm.ClassFile.FieldType.array Jvm.ClassFile.FieldType.byte))) : Jvm.Cond).before a0 Z = true := hw _ (List.mem_of_getElem? (i := 163) rfl)
theorem w164 {Z : State} {a0 : Array Value} (hw : ∀ d ∈ tables_1, d.before a0 Z = true) : ((Jvm.Cond.methodLink "java/util/Arrays" (343 : Nat) ({ cls := "java/util/Arrays", name := "checkLength", desc := "(II)V" } : Jvm.MethodName)) : Jvm.Cond).before a0 Z = true := hw _ (List.mem_of_getElem? (i := 164) rfl)
theorem w165 {Z : State} {a0 : Array Value} (hw : ∀ d ∈ tables_1, d.before a0 Z = true) : ((Jvm.Cond.static ({ cls := "java/util/Arrays", name := "checkLength", desc := "(II)V" } : Jvm.MethodName)) : Jvm.Cond).before a0 Z = true := hw _ (List.mem_of_getElem? (i := 165) rfl)
theorem w166 {Z : State} {a0 : Array Value} (hw : ∀ d ∈ tables_1, d.before a0 Z = true) : ((Jvm.Cond.code ({ cls := "java/util/Arrays", name := "checkLength", desc := "(II)V" } : Jvm.MethodName) jdk_65_method_131_code (2 : Nat) (Option.none : Option Jvm.ClassFile.FieldType)) : Jvm.Cond).before a0 Z = true := hw _ (List.mem_of_getElem? (i := 166) rfl)
theorem w167 {Z : State} {a0 : Array Value} (hw : ∀ d ∈ tables_1, d.before a0 Z = true) : ((Jvm.Cond.methodLink "java/util/Arrays" (304 : Nat) ({ cls := "java/lang/Math", name := "min", desc := "(II)I" } : Jvm.MethodName)) : Jvm.Cond).before a0 Z = true := hw _ (List.mem_of_getElem? (i := 167) rfl)
theorem w168 {Z : State} {a0 : Array Value} (hw : ∀ d ∈ tables_1, d.before a0 Z = true) : ((Jvm.Cond.static ({ cls := "java/lang/Math", name := "min", desc := "(II)I" } : Jvm.MethodName)) : Jvm.Cond).before a0 Z = true := hw _ (List.mem_of_getElem? (i := 168) rfl)
theorem w169 {Z : State} {a0 : Array Value} (hw : ∀ d ∈ tables_1, d.before a0 Z = true) : ((Jvm.Cond.initialized "java/lang/Math") : Jvm.Cond).before a0 Z = true := hw _ (List.mem_of_getElem? (i := 169) rfl)
theorem w170 {Z : State} {a0 : Array Value} (hw : ∀ d ∈ tables_1, d.before a0 Z = true) : ((Jvm.Cond.code ({ cls := "java/lang/Math", name := "min", desc := "(II)I" } : Jvm.MethodName) jdk_29_method_69_code (2 : Nat) (Option.some Jvm.ClassFile.FieldType.int)) : Jvm.Cond).before a0 Z = true := hw _ (List.mem_of_getElem? (i := 170) rfl)
theorem w171 {Z : State} {a0 : Array Value} (hw : ∀ d ∈ tables_1, d.before a0 Z = true) : ((Jvm.Cond.methodLink "java/util/Arrays" (150 : Nat) ({ cls := "java/lang/System", name := "arraycopy", desc := "(Ljava/lang/Object;ILjava/lang/Object;II)V" } : Jvm.MethodName)) : Jvm.Cond).before a0 Z = true := hw _ (List.mem_of_getElem? (i := 171) rfl)
theorem w172 {Z : State} {a0 : Array Value} (hw : ∀ d ∈ tables_1, d.before a0 Z = true) : ((Jvm.Cond.methodLink "com/example/ranker/ranker/RunFileLinePinLaw" (19 : Nat) ({ cls := "java/lang/Math", name := "abs", desc := "(J)J" } : Jvm.MethodName)) : Jvm.Cond).before a0 Z = true := hw _ (List.mem_of_getElem? (i := 172) rfl)
theorem w173 {Z : State} {a0 : Array Value} (hw : ∀ d ∈ tables_1, d.before a0 Z = true) : ((Jvm.Cond.static ({ cls := "java/lang/Math", name := "abs", desc := "(J)J" } : Jvm.MethodName)) : Jvm.Cond).before a0 Z = true := hw _ (List.mem_of_getElem? (i := 173) rfl)
theorem w174 {Z : State} {a0 : Array Value} (hw : ∀ d ∈ tables_1, d.before a0 Z = true) : ((Jvm.Cond.code ({ cls := "java/lang/Math", name := "abs", desc := "(J)J" } : Jvm.MethodName) jdk_29_method_61_code (2 : Nat) (Option.some Jvm.ClassFile.FieldType.long)) : Jvm.Cond).before a0 Z = true := hw _ (List.mem_of_getElem? (i := 174) rfl)
theorem w175 {Z : State} {a0 : Array Value} (hw : ∀ d ∈ tables_1, d.before a0 Z = true) : ((Jvm.Cond.methodLink "com/example/ranker/ranker/RunFileLinePinLaw" (25 : Nat) ({ cls := "com/example/ranker/ranker/RunFileLinePinLaw", name := "digits", desc := "(J)I" } : Jvm.MethodName)) : Jvm.Cond).before a0 Z = true := hw _ (List.mem_of_getElem? (i := 175) rfl)
theorem w176 {Z : State} {a0 : Array Value} (hw : ∀ d ∈ tables_1, d.before a0 Z = true) : ((Jvm.Cond.static ({ cls := "com/example/ranker/ranker/RunFileLinePinLaw", name := "digits", desc := "(J)I" } : Jvm.MethodName)) : Jvm.Cond).before a0 Z = true := hw _ (List.mem_of_getElem? (i := 176) rfl)
theorem w177 {Z : State} {a0 : Array Value} (hw : ∀ d ∈ tables_1, d.before a0 Z = true) : ((Jvm.Cond.code ({ cls := "com/example/ranker/ranker/RunFileLinePinLaw", name := "digits", desc := "(J)I" } : Jvm.MethodName) method_4_code (3 : Nat) (Option.some Jvm.ClassFile.FieldType.int)) : Jvm.Cond).before a0 Z = true := hw _ (List.mem_of_getElem? (i := 177) rfl)
theorem w178 {Z : State} {a0 : Array Value} (hw : ∀ d ∈ tables_1, d.before a0 Z = true) : ((Jvm.Cond.constantLong "com/example/ranker/ranker/RunFileLinePinLaw" (47 : Nat) (10 : Int64)) : Jvm.Cond).before a0 Z = true := hw _ (List.mem_of_getElem? (i := 178) rfl)
theorem w179 {Z : State} {a0 : Array Value} (hw : ∀ d ∈ tables_1, d.before a0 Z = true) : ((Jvm.Cond.constantLong "com/example/ranker/ranker/RunFileLinePinLaw" (49 : Nat) (100 : Int64)) : Jvm.Cond).before a0 Z = true := hw _ (List.mem_of_getElem? (i := 179) rfl)
theorem w180 {Z : State} {a0 : Array Value} (hw : ∀ d ∈ tables_1, d.before a0 Z = true) : ((Jvm.Cond.constantLong "com/example/ranker/ranker/RunFileLinePinLaw" (51 : Nat) (1000 : Int64)) : Jvm.Cond).before a0 Z = true := hw _ (List.mem_of_getElem? (i := 180) rfl)
theorem w181 {Z : State} {a0 : Array Value} (hw : ∀ d ∈ tables_1, d.before a0 Z = true) : ((Jvm.Cond.constantLong "com/example/ranker/ranker/RunFileLinePinLaw" (53 : Nat) (10000 : Int64)) : Jvm.Cond).before a0 Z = true := hw _ (List.mem_of_getElem? (i := 181) rfl)
theorem w182 {Z : State} {a0 : Array Value} (hw : ∀ d ∈ tables_1, d.before a0 Z = true) : ((Jvm.Cond.constantLong "com/example/ranker/ranker/RunFileLinePinLaw" (55 : Nat) (100000 : Int64)) : Jvm.Cond).before a0 Z = true := hw _ (List.mem_of_getElem? (i := 182) rfl)
theorem w183 {Z : State} {a0 : Array Value} (hw : ∀ d ∈ tables_1, d.before a0 Z = true) : ((Jvm.Cond.constantLong "com/example/ranker/ranker/RunFileLinePinLaw" (57 : Nat) (1000000 : Int64)) : Jvm.Cond).before a0 Z = true := hw _ (List.mem_of_getElem? (i := 183) rfl)
theorem w184 {Z : State} {a0 : Array Value} (hw : ∀ d ∈ tables_1, d.before a0 Z = true) : ((Jvm.Cond.constantLong "com/example/ranker/ranker/RunFileLinePinLaw" (59 : Nat) (10000000 : Int64)) : Jvm.Cond).before a0 Z = true := hw _ (List.mem_of_getElem? (i := 184) rfl)
theorem w185 {Z : State} {a0 : Array Value} (hw : ∀ d ∈ tables_1, d.before a0 Z = true) : ((Jvm.Cond.constantLong "com/example/ranker/ranker/RunFileLinePinLaw" (61 : Nat) (100000000 : Int64)) : Jvm.Cond).before a0 Z = true := hw _ (List.mem_of_getElem? (i := 185) rfl)
theorem w186 {Z : State} {a0 : Array Value} (hw : ∀ d ∈ tables_1, d.before a0 Z = true) : ((Jvm.Cond.constantLong "com/example/ranker/ranker/RunFileLinePinLaw" (63 : Nat) (1000000000 : Int64)) : Jvm.Cond).before a0 Z = true := hw _ (List.mem_of_getElem? (i := 186) rfl)
theorem w187 {Z : State} {a0 : Array Value} (hw : ∀ d ∈ tables_1, d.before a0 Z = true) : ((Jvm.Cond.methodLink "com/example/ranker/ranker/RunFileLinePinLaw" (29 : Nat) ({ cls := "java/lang/String", name := "length", desc := "()I" } : Jvm.MethodName)) : Jvm.Cond).before a0 Z = true := hw _ (List.mem_of_getElem? (i := 187) rfl)
theorem w188 {Z : State} {a0 : Array Value} (hw : ∀ d ∈ tables_1, d.before a0 Z = true) : ((Jvm.Cond.methodLink "com/example/ranker/ranker/RunFileLinePinLaw" (35 : Nat) ({ cls := "com/example/ranker/ranker/RunFileLinePinLaw", name := "same", desc := "(Ljava/lang/String;ILjava/lang/String;)Z" } : Jvm.MethodName)) : Jvm.Cond).before a0 Z = true := hw _ (List.mem_of_getElem? (i := 188) rfl)
theorem w189 {Z : State} {a0 : Array Value} (hw : ∀ d ∈ tables_1, d.before a0 Z = true) : ((Jvm.Cond.static ({ cls := "com/example/ranker/ranker/RunFileLinePinLaw", name := "same", desc := "(Ljava/lang/String;ILjava/lang/String;)Z" } : Jvm.MethodName)) : Jvm.Cond).before a0 Z = true := hw _ (List.mem_of_getElem? (i := 189) rfl)
theorem w190 {Z : State} {a0 : Array Value} (hw : ∀ d ∈ tables_1, d.before a0 Z = true) : ((Jvm.Cond.code ({ cls := "com/example/ranker/ranker/RunFileLinePinLaw", name := "same", desc := "(Ljava/lang/String;ILjava/lang/String;)Z" } : Jvm.MethodName) method_6_code (3 : Nat) (Option.some Jvm.ClassFile.FieldType.boolean)) : Jvm.Cond).before a0 Z = true := hw _ (List.mem_of_getElem? (i := 190) rfl)
theorem w191 {Z : State} {a0 : Array Value} (hw : ∀ d ∈ tables_1, d.before a0 Z = true) : ((Jvm.Cond.methodLink "com/example/ranker/ranker/RunFileLinePinLaw" (39 : Nat) ({ cls := "java/lang/String", name := "charAt", desc := "(I)C" } : Jvm.MethodName)) : Jvm.Cond).before a0 Z = true := hw _ (List.mem_of_getElem? (i := 191) rfl)
theorem w192 {Z : State} {a0 : Array Value} (hw : ∀ d ∈ tables_1, d.before a0 Z = true) : ((Jvm.Cond.declares ({ cls := "java/lang/String", name := "charAt", desc := "(I)C" } : Jvm.MethodName)) : Jvm.Cond).before a0 Z = true := hw _ (List.mem_of_getElem? (i := 192) rfl)
theorem w193 {Z : State} {a0 : Array Value} (hw : ∀ d ∈ tables_1, d.before a0 Z = true) : ((Jvm.Cond.instanceMethod ({ cls := "java/lang/String", name := "charAt", desc := "(I)C" } : Jvm.MethodName)) : Jvm.Cond).before a0 Z = true := hw _ (List.mem_of_getElem? (i := 193) rfl)
theorem w194 {Z : State} {a0 : Array Value} (hw : ∀ d ∈ tables_1, d.before a0 Z = true) : ((Jvm.Cond.selects "java/lang/String" ({ cls := "java/lang/String", name := "charAt", desc := "(I)C" } : Jvm.MethodName) ({ cls := "java/lang/String", name := "charAt", desc := "(I)C" } : Jvm.MethodName)) : Jvm.Cond).before a0 Z = true := hw _ (List.mem_of_getElem? (i := 194) rfl)
theorem w195 {Z : State} {a0 : Array Value} (hw : ∀ d ∈ tables_1, d.before a0 Z = true) : ((Jvm.Cond.code ({ cls := "java/lang/String", name := "charAt", desc := "(I)C" } : Jvm.MethodName) jdk_42_method_56_code (2 : Nat) (Option.some Jvm.ClassFile.FieldType.char)) : Jvm.Cond).before a0 Z = true := hw _ (List.mem_of_getElem? (i := 195) rfl)
theorem w196 {Z : State} {a0 : Array Value} (hw : ∀ d ∈ tables_1, d.before a0 Z = true) : ((Jvm.Cond.methodLink "java/lang/String" (492 : Nat) ({ cls := "java/lang/String", name := "isLatin1", desc := "()Z" } : Jvm.MethodName)) : Jvm.Cond).before a0 Z = true := hw _ (List.mem_of_getElem? (i := 196) rfl)
theorem w197 {Z : State} {a0 : Array Value} (hw : ∀ d ∈ tables_1, d.before a0 Z = true) : ((Jvm.Cond.declares ({ cls := "java/lang/String", name := "isLatin1", desc := "()Z" } : Jvm.MethodName)) : Jvm.Cond).before a0 Z = true := hw _ (List.mem_of_getElem? (i := 197) rfl)
theorem w198 {Z : State} {a0 : Array Value} (hw : ∀ d ∈ tables_1, d.before a0 Z = true) : ((Jvm.Cond.instanceMethod ({ cls := "java/lang/String", name := "isLatin1", desc := "()Z" } : Jvm.MethodName)) : Jvm.Cond).before a0 Z = true := hw _ (List.mem_of_getElem? (i := 198) rfl)
theorem w199 {Z : State} {a0 : Array Value} (hw : ∀ d ∈ tables_1, d.before a0 Z = true) : ((Jvm.Cond.selects "java/lang/String" ({ cls := "java/lang/String", name := "isLatin1", desc := "()Z" } : Jvm.MethodName) ({ cls := "java/lang/String", name := "isLatin1", desc := "()Z" } : Jvm.MethodName)) : Jvm.Cond).before a0 Z = true := hw _ (List.mem_of_getElem? (i := 199) rfl)
theorem w200 {Z : State} {a0 : Array Value} (hw : ∀ d ∈ tables_1, d.before a0 Z = true) : ((Jvm.Cond.code ({ cls := "java/lang/String", name := "isLatin1", desc := "()Z" } : Jvm.MethodName) jdk_42_method_154_code (1 : Nat) (Option.some Jvm.ClassFile.FieldType.boolean)) : Jvm.Cond).before a0 Z = true := hw _ (List.mem_of_getElem? (i := 200) rfl)
theorem w201 {Z : State} {a0 : Array Value} (hw : ∀ d ∈ tables_1, d.before a0 Z = true) : ((Jvm.Cond.methodLink "java/lang/String" (495 : Nat) ({ cls := "java/lang/StringLatin1", name := "charAt", desc := "([BI)C" } : Jvm.MethodName)) : Jvm.Cond).before a0 Z = true := hw _ (List.mem_of_getElem? (i := 201) rfl)
theorem w202 {Z : State} {a0 : Array Value} (hw : ∀ d ∈ tables_1, d.before a0 Z = true) : ((Jvm.Cond.static ({ cls := "java/lang/StringLatin1", name := "charAt", desc := "([BI)C" } : Jvm.MethodName)) : Jvm.Cond).before a0 Z = true := hw _ (List.mem_of_getElem? (i := 202) rfl)
theorem w203 {Z : State} {a0 : Array Value} (hw : ∀ d ∈ tables_1, d.before a0 Z = true) : ((Jvm.Cond.initialized "java/lang/StringLatin1") : Jvm.Cond).before a0 Z = true := hw _ (List.mem_of_getElem? (i := 203) rfl)
theorem w204 {Z : State} {a0 : Array Value} (hw : ∀ d ∈ tables_1, d.before a0 Z = true) : ((Jvm.Cond.code ({ cls := "java/lang/StringLatin1", name := "charAt", desc := "([BI)C" } : Jvm.MethodName) jdk_43_method_2_code (2 : Nat) (Option.some Jvm.ClassFile.FieldType.char)) : Jvm.Cond).before a0 Z = true := hw _ (List.mem_of_getElem? (i := 204) rfl)
theorem w205 {Z : State} {a0 : Array Value} (hw : ∀ d ∈ tables_1, d.before a0 Z = true) : ((Jvm.Cond.methodLink "java/lang/StringLatin1" (9 : Nat) ({ cls := "java/lang/String", name := "checkIndex", desc := "(II)V" } : Jvm.MethodName)) : Jvm.Cond).before a0 Z = true := hw _ (List.mem_of_getElem? (i := 205) rfl)
theorem w206 {Z : State} {a0 : Array Value} (hw : ∀ d ∈ tables_1, d.before a0 Z = true) : ((Jvm.Cond.static ({ cls := "java/lang/String", name := "checkIndex", desc := "(II)V" } : Jvm.MethodName)) : Jvm.Cond).before a0 Z = true := hw _ (List.mem_of_getElem? (i := 206) rfl)
theorem w207 {Z : State} {a0 : Array Value} (hw : ∀ d ∈ tables_1, d.before a0 Z = true) : ((Jvm.Cond.code ({ cls := "java/lang/String", name := "checkIndex", desc := "(II)V" } : Jvm.MethodName) jdk_42_method_155_code (2 : Nat) (Option.none : Option Jvm.ClassFile.FieldType)) : Jvm.Cond).before a0 Z = true := hw _ (List.mem_of_getElem? (i := 207) rfl)
theorem w208 {Z : State} {a0 : Array Value} (hw : ∀ d ∈ tables_1, d.before a0 Z = true) : ((Jvm.Cond.fieldLink "java/lang/String" (1053 : Nat) "jdk/internal/util/Preconditions" "SIOOBE_FORMATTER" "Ljava/util/function/BiFunction;") : Jvm.Cond).before a0 Z = true := hw _ (List.mem_of_getElem? (i := 208) rfl)
theorem w209 {Z : State} {a0 : Array Value} (hw : ∀ d ∈ tables_1, d.before a0 Z = true) : ((Jvm.Cond.initialized "jdk/internal/util/Preconditions") : Jvm.Cond).before a0 Z = true := hw _ (List.mem_of_getElem? (i := 209) rfl)
theorem w210 {Z : State} {a0 : Array Value} (hw : ∀ d ∈ tables_1, d.before a0 Z = true) : ((Jvm.Cond.methodLink "java/lang/String" (1059 : Nat) ({ cls := "jdk/internal/util/Preconditions", name := "checkIndex", desc := "(IILjava/util/function/BiFunction;)I" } : Jvm.MethodName)) : Jvm.Cond).before a0 Z = true := hw _ (List.mem_of_getElem? (i := 210) rfl)
theorem w211 {Z : State} {a0 : Array Value} (hw : ∀ d ∈ tables_1, d.before a0 Z = true) : ((Jvm.Cond.static ({ cls := "jdk/internal/util/Preconditions", name := "checkIndex", desc := "(IILjava/util/function/BiFunction;)I" } : Jvm.MethodName)) : Jvm.Cond).before a0 Z = true := hw _ (List.mem_of_getElem? (i := 211) rfl)
theorem w212 {Z : State} {a0 : Array Value} (hw : ∀ d ∈ tables_1, d.before a0 Z = true) : ((Jvm.Cond.code ({ cls := "jdk/internal/util/Preconditions", name := "checkIndex", desc := "(IILjava/util/function/BiFunction;)I" } : Jvm.MethodName) jdk_41_method_11_code (3 : Nat) (Option.some Jvm.ClassFile.FieldType.int)) : Jvm.Cond).before a0 Z = true := hw _ (List.mem_of_getElem? (i := 212) rfl)
theorem w213 {Z : State} {a0 : Array Value} (hw : ∀ d ∈ tables_1, d.before a0 Z = true) : ((Jvm.Cond.methodLink "com/example/ranker/ranker/RunFileLinePinLaw" (43 : Nat) ({ cls := "com/example/ranker/ranker/RunFileLinePinLaw", name := "dig", desc := "(Ljava/lang/String;IJJ)Z" } : Jvm.MethodName)) : Jvm.Cond).before a0 Z = true := hw _ (List.mem_of_getElem? (i := 213) rfl)
theorem w214 {Z : State} {a0 : Array Value} (hw : ∀ d ∈ tables_1, d.before a0 Z = true) : ((Jvm.Cond.static ({ cls := "com/example/ranker/ranker/RunFileLinePinLaw", name := "dig", desc := "(Ljava/lang/String;IJJ)Z" } : Jvm.MethodName)) : Jvm.Cond).before a0 Z = true := hw _ (List.mem_of_getElem? (i := 214) rfl)
theorem w215 {Z : State} {a0 : Array Value} (hw : ∀ d ∈ tables_1, d.before a0 Z = true) : ((Jvm.Cond.code ({ cls := "com/example/ranker/ranker/RunFileLinePinLaw", name := "dig", desc := "(Ljava/lang/String;IJJ)Z" } : Jvm.MethodName) method_5_code (6 : Nat) (Option.some Jvm.ClassFile.FieldType.boolean)) : Jvm.Cond).before a0 Z = true := hw _ (List.mem_of_getElem? (i := 215) rfl)
theorem w216 {Z : State} {a0 : Array Value} (hw : ∀ d ∈ tables_1, d.before a0 Z = true) : ((Jvm.Cond.fieldLink "java/lang/Integer" (87 : Nat) "java/lang/Integer" "DigitTens" "[B") : Jvm.Cond).before a0 Z = true := hw _ (List.mem_of_getElem? (i := 216) rfl)
theorem w217 {Z : State} {a0 : Array Value} (hw : ∀ d ∈ tables_1, d.before a0 Z = true) : ((Jvm.Cond.methodLink "java/lang/AbstractStringBuilder" (104 : Nat) ({ cls := "java/lang/AbstractStringBuilder", name := "newCapacity", desc := "(I)I" } : Jvm.MethodName)) : Jvm.Cond).before a0 Z = true := hw _ (List.mem_of_getElem? (i := 217) rfl)
theorem w218 {Z : State} {a0 : Array Value} (hw : ∀ d ∈ tables_1, d.before a0 Z = true) : ((Jvm.Cond.instanceMethod ({ cls := "java/lang/AbstractStringBuilder", name := "newCapacity", desc := "(I)I" } : Jvm.MethodName)) : Jvm.Cond).before a0 Z = true := hw _ (List.mem_of_getElem? (i := 218) rfl)
theorem w219 {Z : State} {a0 : Array Value} (hw : ∀ d ∈ tables_1, d.before a0 Z = true) : ((Jvm.Cond.privateMethod ({ cls := "java/lang/AbstractStringBuilder", name := "newCapacity", desc := "(I)I" } : Jvm.MethodName)) : Jvm.Cond).before a0 Z = true := hw _ (List.mem_of_getElem? (i := 219) rfl)
theorem w220 {Z : State} {a0 : Array Value} (hw : ∀ d ∈ tables_1, d.before a0 Z = true) : ((Jvm.Cond.selects "java/lang/StringBuilder" ({ cls := "java/lang/AbstractStringBuilder", name := "newCapacity", desc := "(I)I" } : Jvm.MethodName) ({ cls := "java/lang/AbstractStringBuilder", name := "newCapacity", desc := "(I)I" } : Jvm.MethodName)) : Jvm.Cond).before a0 Z = true := hw _ (List.mem_of_getElem? (i := 220) rfl)
theorem w221 {Z : State} {a0 : Array Value} (hw : ∀ d ∈ tables_1, d.before a0 Z = true) : ((Jvm.Cond.code ({ cls := "java/lang/AbstractStringBuilder", name := "newCapacity", desc := "(I)I" } : Jvm.MethodName) jdk_68_method_10_code (6 : Nat) (Option.some Jvm.ClassFile.FieldType.int)) : Jvm.Cond).before a0 Z = true := hw _ (List.mem_of_getElem? (i := 221) rfl)
theorem w222 {Z : State} {a0 : Array Value} (hw : ∀ d ∈ tables_1, d.before a0 Z = true) : ((Jvm.Cond.methodLink "java/lang/AbstractStringBuilder" (114 : Nat) ({ cls := "jdk/internal/util/ArraysSupport", name := "newLength", desc := "(III)I" } : Jvm.MethodName)) : Jvm.Cond).before a0 Z = true := hw _ (List.mem_of_getElem? (i := 222) rfl)
theorem w223 {Z : State} {a0 : Array Value} (hw : ∀ d ∈ tables_1, d.before a0 Z = true) : ((Jvm.Cond.static ({ cls := "jdk/internal/util/ArraysSupport", name := "newLength", desc := "(III)I" } : Jvm.MethodName)) : Jvm.Cond).before a0 Z = true := hw _ (List.mem_of_getElem? (i := 223) rfl)
theorem w224 {Z : State} {a0 : Array Value} (hw : ∀ d ∈ tables_1, d.before a0 Z = true) : ((Jvm.Cond.initialized "jdk/internal/util/ArraysSupport") : Jvm.Cond).before a0 Z = true := hw _ (List.mem_of_getElem? (i := 224) rfl)
theorem w225 {Z : State} {a0 : Array Value} (hw : ∀ d ∈ tables_1, d.before a0 Z = true) : ((Jvm.Cond.code ({ cls := "jdk/internal/util/ArraysSupport", name := "newLength", desc := "(III)I" } : Jvm.MethodName) jdk_48_method_27_code (4 : Nat) (Option.some Jvm.ClassFile.FieldType.int)) : Jvm.Cond).before a0 Z = true := hw _ (List.mem_of_getElem? (i := 225) rfl)
theorem w226 {Z : State} {a0 : Array Value} (hw : ∀ d ∈ tables_1, d.before a0 Z = true) : ((Jvm.Cond.methodLink "jdk/internal/util/ArraysSupport" (194 : Nat) ({ cls := "java/lang/Math", name := "max", desc := "(II)I" } : Jvm.MethodName)) : Jvm.Cond).before a0 Z = true := hw _ (List.mem_of_getElem? (i := 226) rfl)
theorem w227 {Z : State} {a0 : Array Value} (hw : ∀ d ∈ tables_1, d.before a0 Z = true) : ((Jvm.Cond.static ({ cls := "java/lang/Math", name := "max", desc := "(II)I" } : Jvm.MethodName)) : Jvm.Cond).before a0 Z = true := hw _ (List.mem_of_getElem? (i := 227) rfl)
theorem w228 {Z : State} {a0 : Array Value} (hw : ∀ d ∈ tables_1, d.before a0 Z = true) : ((Jvm.Cond.code ({ cls := "java/lang/Math", name := "max", desc := "(II)I" } : Jvm.MethodName) jdk_29_method_65_code (2 : Nat) (Option.some Jvm.ClassFile.FieldType.int)) : Jvm.Cond).before a0 Z = true := hw _ (List.mem_of_getElem? (i := 228) rfl)
theorem w229 {Z : State} {a0 : Array Value} (hw : ∀ d ∈ tables_1, d.before a0 Z = true) : ((Jvm.Cond.constant "jdk/internal/util/ArraysSupport" (200 : Nat) (2147483639 : Int32)) : Jvm.Cond).before a0 Z = true := hw _ (List.mem_of_getElem? (i := 229) rfl)
theorem w230 {Z : State} {a0 : Array Value} (hw : ∀ d ∈ tables_1, d.before a0 Z = true) : ((Jvm.Cond.constant "java/lang/AbstractStringBuilder" (39 : Nat) (2147483647 : Int32)) : Jvm.Cond).before a0 Z = true := hw _ (List.mem_of_getElem? (i := 230) rfl)
theorem w231 {Z : State} {a0 : Array Value} (hw : ∀ d ∈ tables_1, d.before a0 Z = true) : ((Jvm.Cond.methodLink "java/lang/AbstractStringBuilder" (108 : Nat) ({ cls := "java/util/Arrays", name := "copyOf", desc := "([BI)[B" } : Jvm.MethodName)) : Jvm.Cond).before a0 Z = true := hw _ (List.mem_of_getElem? (i := 231) rfl)
theorem w232 {Z : State} {a0 : Array Value} (hw : ∀ d ∈ tables_1, d.before a0 Z = true) : ((Jvm.Cond.static ({ cls := "java/util/Arrays", name := "copyOf", desc := "([BI)[B" } : Jvm.MethodName)) : Jvm.Cond).before a0 Z = true := hw _ (List.mem_of_getElem? (i := 232) rfl)
theorem w233 {Z : State} {a0 : Array Value} (hw : ∀ d ∈ tables_1, d.before a0 Z = true) : ((Jvm.Cond.code ({ cls := "java/util/Arrays", name := "copyOf", desc := "([BI)[B" } : Jvm.MethodName) jdk_65_method_121_code (3 : Nat) (Option.some (Jvm.ClassFile.FieldType.array Jvm.ClassFile.FieldType.byte))) : Jvm.Cond).before a0 Z = true := hw _ (List.mem_of_getElem? (i := 233) rfl)
theorem w234 {Z : State} {a0 : Array Value} (hw : ∀ d ∈ tables_1, d.before a0 Z = true) : ((Jvm.Cond.methodLink "java/util/Arrays" (310 : Nat) ({ cls := "[B", name := "clone", desc := "()Ljava/lang/Object;" } : Jvm.MethodName)) : Jvm.Cond).before a0 Z = true := hw _ (List.mem_of_getElem? (i := 234) rfl)
theorem w235 {Z : State} {a0 : Array Value} (hw : ∀ d ∈ tables_1, d.before a0 Z = true) : ((Jvm.Cond.sameMethod "[B" "java/lang/Object" "clone" "()Ljava/lang/Object;") : Jvm.Cond).before a0 Z = true := hw _ (List.mem_of_getElem? (i := 235) rfl)
theorem w237 {Z : State} {a0 : Array Value} (hw : ∀ d ∈ tables_1, d.before a0 Z = true) : ((Jvm.Cond.instanceMethod ({ cls := "java/lang/Object", name := "clone", desc := "()Ljava/lang/Object;" } : Jvm.MethodName)) : Jvm.Cond).before a0 Z = true := hw _ (List.mem_of_getElem? (i := 237) rfl)
theorem w238 {Z : State} {a0 : Array Value} (hw : ∀ d ∈ tables_1, d.before a0 Z = true) : ((Jvm.Cond.selects "[B" ({ cls := "[B", name := "clone", desc := "()Ljava/lang/Object;" } : Jvm.MethodName) ({ cls := "java/lang/Object", name := "clone", desc := "()Ljava/lang/Object;" } : Jvm.MethodName)) : Jvm.Cond).before a0 Z = true := hw _ (List.mem_of_getElem? (i := 238) rfl)
theorem w239 {Z : State} {a0 : Array Value} (hw : ∀ d ∈ tables_1, d.before a0 Z = true) : ((Jvm.Cond.native ({ cls := "java/lang/Object", name := "clone", desc := "()Ljava/lang/Object;" } : Jvm.MethodName)) : Jvm.Cond).before a0 Z = true := hw _ (List.mem_of_getElem? (i := 239) rfl)
theorem w240 {Z : State} {a0 : Array Value} (hw : ∀ d ∈ tables_1, d.before a0 Z = true) : ((Jvm.Cond.castable "[B" "java/lang/Cloneable") : Jvm.Cond).before a0 Z = true := hw _ (List.mem_of_getElem? (i := 240) rfl)
theorem w241 {Z : State} {a0 : Array Value} (hw : ∀ d ∈ tables_1, d.before a0 Z = true) : ((Jvm.Cond.classLink "java/util/Arrays" (311 : Nat) "[B") : Jvm.Cond).before a0 Z = true := hw _ (List.mem_of_getElem? (i := 241) rfl)
theorem w242 {Z : State} {a0 : Array Value} (hw : ∀ d ∈ tables_1, d.before a0 Z = true) : ((Jvm.Cond.castable "[B" "[B") : Jvm.Cond).before a0 Z = true := hw _ (List.mem_of_getElem? (i := 242) rfl)
theorem d1_0 : decode method_3_code 0 = .ok (.lload_n 0, 1) := by decide +kernel
theorem d1_1 : decode method_3_code 1 = .ok (.ldc2_w 65, 3) := by decide +kernel
theorem d1_4 : decode method_3_code 4 = .ok (.land, 1) := by decide +kernel
theorem d1_5 : decode method_3_code 5 = .ok (.l2i, 1) := by decide +kernel
theorem d1_6 : decode method_3_code 6 = .ok (.i2c, 1) := by decide +kernel
theorem d1_7 : decode method_3_code 7 = .ok (.istore_n 3, 1) := by decide +kernel
theorem d1_8 : decode method_3_code 8 = .ok (.lload_n 0, 1) := by decide +kernel
theorem d1_9 : decode method_3_code 9 = .ok (.bipush 8, 2) := by decide +kernel
theorem d1_11 : decode method_3_code 11 = .ok (.lushr, 1) := by decide +kernel
theorem d1_12 : decode method_3_code 12 = .ok (.ldc2_w 65, 3) := by decide +kernel
theorem d1_15 : decode method_3_code 15 = .ok (.land, 1) := by decide +kernel
theorem d1_16 : decode method_3_code 16 = .ok (.l2i, 1) := by decide +kernel
theorem d1_17 : decode method_3_code 17 = .ok (.i2c, 1) := by decide +kernel
theorem d1_18 : decode method_3_code 18 = .ok (.istore 4, 2) := by decide +kernel
theorem d1_20 : decode method_3_code 20 = .ok (.iload_n 2, 1) := by decide +kernel
theorem d1_21 : decode method_3_code 21 = .ok (.ifCond .ne 14, 3) := by decide +kernel
theorem d1_24 : decode method_3_code 24 = .ok (.new 30, 3) := by decide +kernel
theorem d1_27 : decode method_3_code 27 = .ok (.dup, 1) := by decide +kernel
theorem d1_28 : decode method_3_code 28 = .ok (.iconst 0, 1) := by decide +kernel
theorem d1_29 : decode method_3_code 29 = .ok (.newarray .char, 2) := by decide +kernel
theorem d1_31 : decode method_3_code 31 = .ok (.invokespecial 67, 3) := by decide +kernel
theorem d1_34 : decode method_3_code 34 = .ok (.areturn, 1) := by decide +kernel
theorem d1_35 : decode method_3_code 35 = .ok (.iload_n 2, 1) := by decide +kernel
theorem d1_36 : decode method_3_code 36 = .ok (.iconst 1, 1) := by decide +kernel
theorem d1_37 : decode method_3_code 37 = .ok (.if_icmp .ne 23, 3) := by decide +kernel
theorem d1_40 : decode method_3_code 40 = .ok (.iconst 1, 1) := by decide +kernel
theorem d1_41 : decode method_3_code 41 = .ok (.newarray .char, 2) := by decide +kernel
theorem d1_43 : decode method_3_code 43 = .ok (.astore 5, 2) := by decide +kernel
theorem d1_45 : decode method_3_code 45 = .ok (.aload 5, 2) := by decide +kernel
theorem d1_47 : decode method_3_code 47 = .ok (.iconst 0, 1) := by decide +kernel
theorem d1_48 : decode method_3_code 48 = .ok (.iload_n 3, 1) := by decide +kernel
theorem d1_49 : decode method_3_code 49 = .ok (.castore, 1) := by decide +kernel
theorem d1_50 : decode method_3_code 50 = .ok (.new 30, 3) := by decide +kernel
theorem d1_53 : decode method_3_code 53 = .ok (.dup, 1) := by decide +kernel
theorem d1_54 : decode method_3_code 54 = .ok (.aload 5, 2) := by decide +kernel
theorem d1_56 : decode method_3_code 56 = .ok (.invokespecial 67, 3) := by decide +kernel
theorem d1_59 : decode method_3_code 59 = .ok (.areturn, 1) := by decide +kernel
theorem d1_60 : decode method_3_code 60 = .ok (.iconst 2, 1) := by decide +kernel
theorem d1_61 : decode method_3_code 61 = .ok (.newarray .char, 2) := by decide +kernel
theorem d1_63 : decode method_3_code 63 = .ok (.astore 5, 2) := by decide +kernel
theorem d1_65 : decode method_3_code 65 = .ok (.aload 5, 2) := by decide +kernel
theorem d1_67 : decode method_3_code 67 = .ok (.iconst 0, 1) := by decide +kernel
theorem d1_68 : decode method_3_code 68 = .ok (.iload_n 3, 1) := by decide +kernel
theorem d1_69 : decode method_3_code 69 = .ok (.castore, 1) := by decide +kernel
theorem d1_70 : decode method_3_code 70 = .ok (.aload 5, 2) := by decide +kernel
theorem d1_72 : decode method_3_code 72 = .ok (.iconst 1, 1) := by decide +kernel
theorem d1_73 : decode method_3_code 73 = .ok (.iload 4, 2) := by decide +kernel
theorem d1_75 : decode method_3_code 75 = .ok (.castore, 1) := by decide +kernel
theorem d1_76 : decode method_3_code 76 = .ok (.new 30, 3) := by decide +kernel
theorem d1_79 : decode method_3_code 79 = .ok (.dup, 1) := by decide +kernel
theorem d1_80 : decode method_3_code 80 = .ok (.aload 5, 2) := by decide +kernel
theorem d1_82 : decode method_3_code 82 = .ok (.invokespecial 67, 3) := by decide +kernel
theorem d1_85 : decode method_3_code 85 = .ok (.areturn, 1) := by decide +kernel
theorem d2_0 : decode jdk_42_method_3_code 0 = .ok (.aload_n 0, 1) := by decide +kernel
theorem d2_1 : decode jdk_42_method_3_code 1 = .ok (.aload_n 1, 1) := by decide +kernel
theorem d2_2 : decode jdk_42_method_3_code 2 = .ok (.iconst 0, 1) := by decide +kernel
theorem d2_3 : decode jdk_42_method_3_code 3 = .ok (.aload_n 1, 1) := by decide +kernel
theorem d2_4 : decode jdk_42_method_3_code 4 = .ok (.arraylength, 1) := by decide +kernel
theorem d2_5 : decode jdk_42_method_3_code 5 = .ok (.aconst_null, 1) := by decide +kernel
theorem d2_6 : decode jdk_42_method_3_code 6 = .ok (.invokespecial 27, 3) := by decide +kernel
theorem d2_9 : decode jdk_42_method_3_code 9 = .ok (.return_, 1) := by decide +kernel
theorem d3_0 : decode jdk_42_method_149_code 0 = .ok (.aload_n 0, 1) := by decide +kernel
theorem d3_1 : decode jdk_42_method_149_code 1 = .ok (.invokespecial 1, 3) := by decide +kernel
theorem d3_4 : decode jdk_42_method_149_code 4 = .ok (.iload_n 3, 1) := by decide +kernel
theorem d3_5 : decode jdk_42_method_149_code 5 = .ok (.ifCond .ne 22, 3) := by decide +kernel
theorem d3_8 : decode jdk_42_method_149_code 8 = .ok (.aload_n 0, 1) := by decide +kernel
theorem d3_9 : decode jdk_42_method_149_code 9 = .ok (.ldc 7, 2) := by decide +kernel
theorem d3_11 : decode jdk_42_method_149_code 11 = .ok (.getfield 9, 3) := by decide +kernel
theorem d3_14 : decode jdk_42_method_149_code 14 = .ok (.putfield 9, 3) := by decide +kernel
theorem d3_17 : decode jdk_42_method_149_code 17 = .ok (.aload_n 0, 1) := by decide +kernel
theorem d3_18 : decode jdk_42_method_149_code 18 = .ok (.ldc 7, 2) := by decide +kernel
theorem d3_20 : decode jdk_42_method_149_code 20 = .ok (.getfield 15, 3) := by decide +kernel
theorem d3_23 : decode jdk_42_method_149_code 23 = .ok (.putfield 15, 3) := by decide +kernel
theorem d3_26 : decode jdk_42_method_149_code 26 = .ok (.return_, 1) := by decide +kernel
theorem d3_27 : decode jdk_42_method_149_code 27 = .ok (.getstatic 38, 3) := by decide +kernel
theorem d3_30 : decode jdk_42_method_149_code 30 = .ok (.ifCond .eq 28, 3) := by decide +kernel
theorem d3_33 : decode jdk_42_method_149_code 33 = .ok (.aload_n 1, 1) := by decide +kernel
theorem d3_34 : decode jdk_42_method_149_code 34 = .ok (.iload_n 2, 1) := by decide +kernel
theorem d3_35 : decode jdk_42_method_149_code 35 = .ok (.iload_n 3, 1) := by decide +kernel
theorem d3_36 : decode jdk_42_method_149_code 36 = .ok (.invokestatic 177, 3) := by decide +kernel
theorem d3_39 : decode jdk_42_method_149_code 39 = .ok (.astore 5, 2) := by decide +kernel
theorem d3_41 : decode jdk_42_method_149_code 41 = .ok (.aload_n 0, 1) := by decide +kernel
theorem d3_42 : decode jdk_42_method_149_code 42 = .ok (.aload 5, 2) := by decide +kernel
theorem d3_44 : decode jdk_42_method_149_code 44 = .ok (.iload_n 3, 1) := by decide +kernel
theorem d3_45 : decode jdk_42_method_149_code 45 = .ok (.invokestatic 47, 3) := by decide +kernel
theorem d3_48 : decode jdk_42_method_149_code 48 = .ok (.putfield 15, 3) := by decide +kernel
theorem d3_51 : decode jdk_42_method_149_code 51 = .ok (.aload_n 0, 1) := by decide +kernel
theorem d3_52 : decode jdk_42_method_149_code 52 = .ok (.aload 5, 2) := by decide +kernel
theorem d3_54 : decode jdk_42_method_149_code 54 = .ok (.putfield 9, 3) := by decide +kernel
theorem d3_57 : decode jdk_42_method_149_code 57 = .ok (.return_, 1) := by decide +kernel
theorem d5_0 : decode jdk_52_method_16_code 0 = .ok (.iload_n 2, 1) := by decide +kernel
theorem d5_1 : decode jdk_52_method_16_code 1 = .ok (.newarray .byte, 2) := by decide +kernel
theorem d5_3 : decode jdk_52_method_16_code 3 = .ok (.astore_n 3, 1) := by decide +kernel
theorem d5_4 : decode jdk_52_method_16_code 4 = .ok (.aload_n 0, 1) := by decide +kernel
theorem d5_5 : decode jdk_52_method_16_code 5 = .ok (.iload_n 1, 1) := by decide +kernel
theorem d5_6 : decode jdk_52_method_16_code 6 = .ok (.aload_n 3, 1) := by decide +kernel
theorem d5_7 : decode jdk_52_method_16_code 7 = .ok (.iconst 0, 1) := by decide +kernel
theorem d5_8 : decode jdk_52_method_16_code 8 = .ok (.iload_n 2, 1) := by decide +kernel
theorem d5_9 : decode jdk_52_method_16_code 9 = .ok (.invokestatic 115, 3) := by decide +kernel
theorem d5_12 : decode jdk_52_method_16_code 12 = .ok (.istore 4, 2) := by decide +kernel
theorem d5_14 : decode jdk_52_method_16_code 14 = .ok (.iload 4, 2) := by decide +kernel
theorem d5_16 : decode jdk_52_method_16_code 16 = .ok (.iload_n 2, 1) := by decide +kernel
theorem d5_17 : decode jdk_52_method_16_code 17 = .ok (.if_icmp .eq 40, 3) := by decide +kernel
theorem d5_57 : decode jdk_52_method_16_code 57 = .ok (.aload_n 3, 1) := by decide +kernel
theorem d5_58 : decode jdk_52_method_16_code 58 = .ok (.areturn, 1) := by decide +kernel
theorem d6_0 : decode jdk_52_method_21_code 0 = .ok (.iconst 0, 1) := by decide +kernel
theorem d6_1 : decode jdk_52_method_21_code 1 = .ok (.istore 5, 2) := by decide +kernel
theorem d6_3 : decode jdk_52_method_21_code 3 = .ok (.iload 5, 2) := by decide +kernel
theorem d6_5 : decode jdk_52_method_21_code 5 = .ok (.iload 4, 2) := by decide +kernel
theorem d6_7 : decode jdk_52_method_21_code 7 = .ok (.if_icmp .ge 37, 3) := by decide +kernel
theorem d6_10 : decode jdk_52_method_21_code 10 = .ok (.aload_n 0, 1) := by decide +kernel
theorem d6_11 : decode jdk_52_method_21_code 11 = .ok (.iload_n 1, 1) := by decide +kernel
theorem d6_12 : decode jdk_52_method_21_code 12 = .ok (.caload, 1) := by decide +kernel
theorem d6_13 : decode jdk_52_method_21_code 13 = .ok (.istore 6, 2) := by decide +kernel
theorem d6_15 : decode jdk_52_method_21_code 15 = .ok (.iload 6, 2) := by decide +kernel
theorem d6_17 : decode jdk_52_method_21_code 17 = .ok (.sipush 255, 3) := by decide +kernel
theorem d6_20 : decode jdk_52_method_21_code 20 = .ok (.if_icmp .le 6, 3) := by decide +kernel
theorem d6_26 : decode jdk_52_method_21_code 26 = .ok (.aload_n 2, 1) := by decide +kernel
theorem d6_27 : decode jdk_52_method_21_code 27 = .ok (.iload_n 3, 1) := by decide +kernel
theorem d6_28 : decode jdk_52_method_21_code 28 = .ok (.iload 6, 2) := by decide +kernel
theorem d6_30 : decode jdk_52_method_21_code 30 = .ok (.i2b, 1) := by decide +kernel
theorem d6_31 : decode jdk_52_method_21_code 31 = .ok (.bastore, 1) := by decide +kernel
theorem d6_32 : decode jdk_52_method_21_code 32 = .ok (.iinc 1 1, 3) := by decide +kernel
theorem d6_35 : decode jdk_52_method_21_code 35 = .ok (.iinc 3 1, 3) := by decide +kernel
theorem d6_38 : decode jdk_52_method_21_code 38 = .ok (.iinc 5 1, 3) := by decide +kernel
theorem d6_41 : decode jdk_52_method_21_code 41 = .ok (.goto (-38), 3) := by decide +kernel
theorem d6_44 : decode jdk_52_method_21_code 44 = .ok (.iload 4, 2) := by decide +kernel
theorem d6_46 : decode jdk_52_method_21_code 46 = .ok (.ireturn, 1) := by decide +kernel
theorem d7_0 : decode jdk_52_method_15_code 0 = .ok (.iload_n 1, 1) := by decide +kernel
theorem d7_1 : decode jdk_52_method_15_code 1 = .ok (.aload_n 0, 1) := by decide +kernel
theorem d7_2 : decode jdk_52_method_15_code 2 = .ok (.arraylength, 1) := by decide +kernel
theorem d7_3 : decode jdk_52_method_15_code 3 = .ok (.isub, 1) := by decide +kernel
theorem d7_4 : decode jdk_52_method_15_code 4 = .ok (.bipush 31, 2) := by decide +kernel
theorem d7_6 : decode jdk_52_method_15_code 6 = .ok (.iushr, 1) := by decide +kernel
theorem d7_7 : decode jdk_52_method_15_code 7 = .ok (.i2b, 1) := by decide +kernel
theorem d7_8 : decode jdk_52_method_15_code 8 = .ok (.ireturn, 1) := by decide +kernel
theorem d8_0 : decode prog_24_method_5_code 0 = .ok (.new 131, 3) := by decide +kernel
theorem d8_3 : decode prog_24_method_5_code 3 = .ok (.dup, 1) := by decide +kernel
theorem d8_4 : decode prog_24_method_5_code 4 = .ok (.invokespecial 133, 3) := by decide +kernel
theorem d8_7 : decode prog_24_method_5_code 7 = .ok (.aload_n 0, 1) := by decide +kernel
theorem d8_8 : decode prog_24_method_5_code 8 = .ok (.invokevirtual 136, 3) := by decide +kernel
theorem d8_11 : decode prog_24_method_5_code 11 = .ok (.ldc 233, 2) := by decide +kernel
theorem d8_13 : decode prog_24_method_5_code 13 = .ok (.invokevirtual 136, 3) := by decide +kernel
theorem d8_16 : decode prog_24_method_5_code 16 = .ok (.aload_n 1, 1) := by decide +kernel
theorem d8_17 : decode prog_24_method_5_code 17 = .ok (.invokevirtual 136, 3) := by decide +kernel
theorem d8_20 : decode prog_24_method_5_code 20 = .ok (.ldc 161, 2) := by decide +kernel
theorem d8_22 : decode prog_24_method_5_code 22 = .ok (.invokevirtual 136, 3) := by decide +kernel
theorem d8_25 : decode prog_24_method_5_code 25 = .ok (.iload_n 2, 1) := by decide +kernel
theorem d8_26 : decode prog_24_method_5_code 26 = .ok (.invokevirtual 235, 3) := by decide +kernel
theorem d8_29 : decode prog_24_method_5_code 29 = .ok (.ldc 161, 2) := by decide +kernel
theorem d8_31 : decode prog_24_method_5_code 31 = .ok (.invokevirtual 136, 3) := by decide +kernel
theorem d8_34 : decode prog_24_method_5_code 34 = .ok (.aload_n 3, 1) := by decide +kernel
theorem d8_35 : decode prog_24_method_5_code 35 = .ok (.invokevirtual 136, 3) := by decide +kernel
theorem d8_38 : decode prog_24_method_5_code 38 = .ok (.ldc 161, 2) := by decide +kernel
theorem d8_40 : decode prog_24_method_5_code 40 = .ok (.invokevirtual 136, 3) := by decide +kernel
theorem d8_43 : decode prog_24_method_5_code 43 = .ok (.aload 4, 2) := by decide +kernel
theorem d8_45 : decode prog_24_method_5_code 45 = .ok (.invokevirtual 136, 3) := by decide +kernel
theorem d8_48 : decode prog_24_method_5_code 48 = .ok (.invokevirtual 140, 3) := by decide +kernel
theorem d8_51 : decode prog_24_method_5_code 51 = .ok (.areturn, 1) := by decide +kernel
theorem d9_0 : decode jdk_67_method_1_code 0 = .ok (.aload_n 0, 1) := by decide +kernel
theorem d9_1 : decode jdk_67_method_1_code 1 = .ok (.bipush 16, 2) := by decide +kernel
theorem d9_3 : decode jdk_67_method_1_code 3 = .ok (.invokespecial 1, 3) := by decide +kernel
theorem d9_6 : decode jdk_67_method_1_code 6 = .ok (.return_, 1) := by decide +kernel
theorem d10_0 : decode jdk_68_method_2_code 0 = .ok (.aload_n 0, 1) := by decide +kernel
theorem d10_1 : decode jdk_68_method_2_code 1 = .ok (.invokespecial 3, 3) := by decide +kernel
theorem d10_4 : decode jdk_68_method_2_code 4 = .ok (.getstatic 18, 3) := by decide +kernel
theorem d10_7 : decode jdk_68_method_2_code 7 = .ok (.ifCond .eq 18, 3) := by decide +kernel
theorem d10_10 : decode jdk_68_method_2_code 10 = .ok (.aload_n 0, 1) := by decide +kernel
theorem d10_11 : decode jdk_68_method_2_code 11 = .ok (.iload_n 1, 1) := by decide +kernel
theorem d10_12 : decode jdk_68_method_2_code 12 = .ok (.newarray .byte, 2) := by decide +kernel
theorem d10_14 : decode jdk_68_method_2_code 14 = .ok (.putfield 15, 3) := by decide +kernel
theorem d10_17 : decode jdk_68_method_2_code 17 = .ok (.aload_n 0, 1) := by decide +kernel
theorem d10_18 : decode jdk_68_method_2_code 18 = .ok (.iconst 0, 1) := by decide +kernel
theorem d10_19 : decode jdk_68_method_2_code 19 = .ok (.putfield 22, 3) := by decide +kernel
theorem d10_22 : decode jdk_68_method_2_code 22 = .ok (.goto 16, 3) := by decide +kernel
theorem d10_38 : decode jdk_68_method_2_code 38 = .ok (.return_, 1) := by decide +kernel
theorem d11_0 : decode jdk_67_method_7_code 0 = .ok (.aload_n 0, 1) := by decide +kernel
theorem d11_1 : decode jdk_67_method_7_code 1 = .ok (.aload_n 1, 1) := by decide +kernel
theorem d11_2 : decode jdk_67_method_7_code 2 = .ok (.invokespecial 29, 3) := by decide +kernel
theorem d11_5 : decode jdk_67_method_7_code 5 = .ok (.pop, 1) := by decide +kernel
theorem d11_6 : decode jdk_67_method_7_code 6 = .ok (.aload_n 0, 1) := by decide +kernel
theorem d11_7 : decode jdk_67_method_7_code 7 = .ok (.areturn, 1) := by decide +kernel
theorem d12_0 : decode jdk_68_method_22_code 0 = .ok (.aload_n 1, 1) := by decide +kernel
theorem d12_1 : decode jdk_68_method_22_code 1 = .ok (.ifnonnull 8, 3) := by decide +kernel
theorem d12_9 : decode jdk_68_method_22_code 9 = .ok (.aload_n 1, 1) := by decide +kernel
theorem d12_10 : decode jdk_68_method_22_code 10 = .ok (.invokevirtual 32, 3) := by decide +kernel
theorem d12_13 : decode jdk_68_method_22_code 13 = .ok (.istore_n 2, 1) := by decide +kernel
theorem d12_14 : decode jdk_68_method_22_code 14 = .ok (.aload_n 0, 1) := by decide +kernel
theorem d12_15 : decode jdk_68_method_22_code 15 = .ok (.aload_n 0, 1) := by decide +kernel
theorem d12_16 : decode jdk_68_method_22_code 16 = .ok (.getfield 79, 3) := by decide +kernel
theorem d12_19 : decode jdk_68_method_22_code 19 = .ok (.iload_n 2, 1) := by decide +kernel
theorem d12_20 : decode jdk_68_method_22_code 20 = .ok (.iadd, 1) := by decide +kernel
theorem d12_21 : decode jdk_68_method_22_code 21 = .ok (.invokevirtual 100, 3) := by decide +kernel
theorem d12_24 : decode jdk_68_method_22_code 24 = .ok (.aload_n 0, 1) := by decide +kernel
theorem d12_25 : decode jdk_68_method_22_code 25 = .ok (.aload_n 0, 1) := by decide +kernel
theorem d12_26 : decode jdk_68_method_22_code 26 = .ok (.getfield 79, 3) := by decide +kernel
theorem d12_29 : decode jdk_68_method_22_code 29 = .ok (.aload_n 1, 1) := by decide +kernel
theorem d12_30 : decode jdk_68_method_22_code 30 = .ok (.invokevirtual 208, 3) := by decide +kernel
theorem d12_33 : decode jdk_68_method_22_code 33 = .ok (.aload_n 0, 1) := by decide +kernel
theorem d12_34 : decode jdk_68_method_22_code 34 = .ok (.dup, 1) := by decide +kernel
theorem d12_35 : decode jdk_68_method_22_code 35 = .ok (.getfield 79, 3) := by decide +kernel
theorem d12_38 : decode jdk_68_method_22_code 38 = .ok (.iload_n 2, 1) := by decide +kernel
theorem d12_39 : decode jdk_68_method_22_code 39 = .ok (.iadd, 1) := by decide +kernel
theorem d12_40 : decode jdk_68_method_22_code 40 = .ok (.putfield 79, 3) := by decide +kernel
theorem d12_43 : decode jdk_68_method_22_code 43 = .ok (.aload_n 0, 1) := by decide +kernel
theorem d12_44 : decode jdk_68_method_22_code 44 = .ok (.areturn, 1) := by decide +kernel
theorem d13_0 : decode jdk_42_method_54_code 0 = .ok (.aload_n 0, 1) := by decide +kernel
theorem d13_1 : decode jdk_42_method_54_code 1 = .ok (.getfield 9, 3) := by decide +kernel
theorem d13_4 : decode jdk_42_method_54_code 4 = .ok (.arraylength, 1) := by decide +kernel
theorem d13_5 : decode jdk_42_method_54_code 5 = .ok (.aload_n 0, 1) := by decide +kernel
theorem d13_6 : decode jdk_42_method_54_code 6 = .ok (.invokevirtual 335, 3) := by decide +kernel
theorem d13_9 : decode jdk_42_method_54_code 9 = .ok (.ishr, 1) := by decide +kernel
theorem d13_10 : decode jdk_42_method_54_code 10 = .ok (.ireturn, 1) := by decide +kernel
theorem d14_0 : decode jdk_42_method_152_code 0 = .ok (.getstatic 38, 3) := by decide +kernel
theorem d14_3 : decode jdk_42_method_152_code 3 = .ok (.ifCond .eq 10, 3) := by decide +kernel
theorem d14_6 : decode jdk_42_method_152_code 6 = .ok (.aload_n 0, 1) := by decide +kernel
theorem d14_7 : decode jdk_42_method_152_code 7 = .ok (.getfield 15, 3) := by decide +kernel
theorem d14_10 : decode jdk_42_method_152_code 10 = .ok (.goto 4, 3) := by decide +kernel
theorem d14_14 : decode jdk_42_method_152_code 14 = .ok (.ireturn, 1) := by decide +kernel
theorem d15_0 : decode jdk_68_method_9_code 0 = .ok (.aload_n 0, 1) := by decide +kernel
theorem d15_1 : decode jdk_68_method_9_code 1 = .ok (.getfield 15, 3) := by decide +kernel
theorem d15_4 : decode jdk_68_method_9_code 4 = .ok (.arraylength, 1) := by decide +kernel
theorem d15_5 : decode jdk_68_method_9_code 5 = .ok (.aload_n 0, 1) := by decide +kernel
theorem d15_6 : decode jdk_68_method_9_code 6 = .ok (.getfield 22, 3) := by decide +kernel
theorem d15_9 : decode jdk_68_method_9_code 9 = .ok (.ishr, 1) := by decide +kernel
theorem d15_10 : decode jdk_68_method_9_code 10 = .ok (.istore_n 2, 1) := by decide +kernel
theorem d15_11 : decode jdk_68_method_9_code 11 = .ok (.iload_n 1, 1) := by decide +kernel
theorem d15_12 : decode jdk_68_method_9_code 12 = .ok (.iload_n 2, 1) := by decide +kernel
theorem d15_13 : decode jdk_68_method_9_code 13 = .ok (.isub, 1) := by decide +kernel
theorem d15_14 : decode jdk_68_method_9_code 14 = .ok (.ifCond .le 24, 3) := by decide +kernel
theorem d15_17 : decode jdk_68_method_9_code 17 = .ok (.aload_n 0, 1) := by decide +kernel
theorem d15_18 : decode jdk_68_method_9_code 18 = .ok (.aload_n 0, 1) := by decide +kernel
theorem d15_19 : decode jdk_68_method_9_code 19 = .ok (.getfield 15, 3) := by decide +kernel
theorem d15_22 : decode jdk_68_method_9_code 22 = .ok (.aload_n 0, 1) := by decide +kernel
theorem d15_23 : decode jdk_68_method_9_code 23 = .ok (.iload_n 1, 1) := by decide +kernel
theorem d15_24 : decode jdk_68_method_9_code 24 = .ok (.invokevirtual 104, 3) := by decide +kernel
theorem d15_27 : decode jdk_68_method_9_code 27 = .ok (.aload_n 0, 1) := by decide +kernel
theorem d15_28 : decode jdk_68_method_9_code 28 = .ok (.getfield 22, 3) := by decide +kernel
theorem d15_31 : decode jdk_68_method_9_code 31 = .ok (.ishl, 1) := by decide +kernel
theorem d15_32 : decode jdk_68_method_9_code 32 = .ok (.invokestatic 108, 3) := by decide +kernel
theorem d15_35 : decode jdk_68_method_9_code 35 = .ok (.putfield 15, 3) := by decide +kernel
theorem d15_38 : decode jdk_68_method_9_code 38 = .ok (.return_, 1) := by decide +kernel
theorem d16_0 : decode jdk_68_method_73_code 0 = .ok (.aload_n 0, 1) := by decide +kernel
theorem d16_1 : decode jdk_68_method_73_code 1 = .ok (.aload_n 2, 1) := by decide +kernel
theorem d16_2 : decode jdk_68_method_73_code 2 = .ok (.invokevirtual 397, 3) := by decide +kernel
theorem d16_5 : decode jdk_68_method_73_code 5 = .ok (.aload_n 2, 1) := by decide +kernel
theorem d16_6 : decode jdk_68_method_73_code 6 = .ok (.aload_n 0, 1) := by decide +kernel
theorem d16_7 : decode jdk_68_method_73_code 7 = .ok (.getfield 15, 3) := by decide +kernel
theorem d16_10 : decode jdk_68_method_73_code 10 = .ok (.iload_n 1, 1) := by decide +kernel
theorem d16_11 : decode jdk_68_method_73_code 11 = .ok (.aload_n 0, 1) := by decide +kernel
theorem d16_12 : decode jdk_68_method_73_code 12 = .ok (.getfield 22, 3) := by decide +kernel
theorem d16_15 : decode jdk_68_method_73_code 15 = .ok (.invokevirtual 399, 3) := by decide +kernel
theorem d16_18 : decode jdk_68_method_73_code 18 = .ok (.return_, 1) := by decide +kernel
theorem d17_0 : decode jdk_68_method_71_code 0 = .ok (.getstatic 18, 3) := by decide +kernel
theorem d17_3 : decode jdk_68_method_71_code 3 = .ok (.ifCond .eq 18, 3) := by decide +kernel
theorem d17_6 : decode jdk_68_method_71_code 6 = .ok (.aload_n 0, 1) := by decide +kernel
theorem d17_7 : decode jdk_68_method_71_code 7 = .ok (.getfield 22, 3) := by decide +kernel
theorem d17_10 : decode jdk_68_method_71_code 10 = .ok (.aload_n 1, 1) := by decide +kernel
theorem d17_11 : decode jdk_68_method_71_code 11 = .ok (.invokevirtual 40, 3) := by decide +kernel
theorem d17_14 : decode jdk_68_method_71_code 14 = .ok (.if_icmp .eq 7, 3) := by decide +kernel
theorem d17_21 : decode jdk_68_method_71_code 21 = .ok (.return_, 1) := by decide +kernel
theorem d18_0 : decode jdk_42_method_147_code 0 = .ok (.aload_n 0, 1) := by decide +kernel
theorem d18_1 : decode jdk_42_method_147_code 1 = .ok (.invokevirtual 335, 3) := by decide +kernel
theorem d18_4 : decode jdk_42_method_147_code 4 = .ok (.iload_n 3, 1) := by decide +kernel
theorem d18_5 : decode jdk_42_method_147_code 5 = .ok (.if_icmp .ne 23, 3) := by decide +kernel
theorem d18_8 : decode jdk_42_method_147_code 8 = .ok (.aload_n 0, 1) := by decide +kernel
theorem d18_9 : decode jdk_42_method_147_code 9 = .ok (.getfield 9, 3) := by decide +kernel
theorem d18_12 : decode jdk_42_method_147_code 12 = .ok (.iconst 0, 1) := by decide +kernel
theorem d18_13 : decode jdk_42_method_147_code 13 = .ok (.aload_n 1, 1) := by decide +kernel
theorem d18_14 : decode jdk_42_method_147_code 14 = .ok (.iload_n 2, 1) := by decide +kernel
theorem d18_15 : decode jdk_42_method_147_code 15 = .ok (.iload_n 3, 1) := by decide +kernel
theorem d18_16 : decode jdk_42_method_147_code 16 = .ok (.ishl, 1) := by decide +kernel
theorem d18_17 : decode jdk_42_method_147_code 17 = .ok (.aload_n 0, 1) := by decide +kernel
theorem d18_18 : decode jdk_42_method_147_code 18 = .ok (.getfield 9, 3) := by decide +kernel
theorem d18_21 : decode jdk_42_method_147_code 21 = .ok (.arraylength, 1) := by decide +kernel
theorem d18_22 : decode jdk_42_method_147_code 22 = .ok (.invokestatic 212, 3) := by decide +kernel
theorem d18_25 : decode jdk_42_method_147_code 25 = .ok (.goto 18, 3) := by decide +kernel
theorem d18_43 : decode jdk_42_method_147_code 43 = .ok (.return_, 1) := by decide +kernel
theorem d19_0 : decode jdk_67_method_15_code 0 = .ok (.aload_n 0, 1) := by decide +kernel
theorem d19_1 : decode jdk_67_method_15_code 1 = .ok (.iload_n 1, 1) := by decide +kernel
theorem d19_2 : decode jdk_67_method_15_code 2 = .ok (.invokespecial 53, 3) := by decide +kernel
theorem d19_5 : decode jdk_67_method_15_code 5 = .ok (.pop, 1) := by decide +kernel
theorem d19_6 : decode jdk_67_method_15_code 6 = .ok (.aload_n 0, 1) := by decide +kernel
theorem d19_7 : decode jdk_67_method_15_code 7 = .ok (.areturn, 1) := by decide +kernel
theorem d20_0 : decode jdk_68_method_32_code 0 = .ok (.aload_n 0, 1) := by decide +kernel
theorem d20_1 : decode jdk_68_method_32_code 1 = .ok (.getfield 79, 3) := by decide +kernel
theorem d20_4 : decode jdk_68_method_32_code 4 = .ok (.istore_n 2, 1) := by decide +kernel
theorem d20_5 : decode jdk_68_method_32_code 5 = .ok (.iload_n 2, 1) := by decide +kernel
theorem d20_6 : decode jdk_68_method_32_code 6 = .ok (.iload_n 1, 1) := by decide +kernel
theorem d20_7 : decode jdk_68_method_32_code 7 = .ok (.invokestatic 245, 3) := by decide +kernel
theorem d20_10 : decode jdk_68_method_32_code 10 = .ok (.iadd, 1) := by decide +kernel
theorem d20_11 : decode jdk_68_method_32_code 11 = .ok (.istore_n 3, 1) := by decide +kernel
theorem d20_12 : decode jdk_68_method_32_code 12 = .ok (.aload_n 0, 1) := by decide +kernel
theorem d20_13 : decode jdk_68_method_32_code 13 = .ok (.iload_n 3, 1) := by decide +kernel
theorem d20_14 : decode jdk_68_method_32_code 14 = .ok (.invokevirtual 100, 3) := by decide +kernel
theorem d20_17 : decode jdk_68_method_32_code 17 = .ok (.aload_n 0, 1) := by decide +kernel
theorem d20_18 : decode jdk_68_method_32_code 18 = .ok (.invokevirtual 83, 3) := by decide +kernel
theorem d20_21 : decode jdk_68_method_32_code 21 = .ok (.ifCond .eq 16, 3) := by decide +kernel
theorem d20_24 : decode jdk_68_method_32_code 24 = .ok (.iload_n 1, 1) := by decide +kernel
theorem d20_25 : decode jdk_68_method_32_code 25 = .ok (.iload_n 3, 1) := by decide +kernel
theorem d20_26 : decode jdk_68_method_32_code 26 = .ok (.aload_n 0, 1) := by decide +kernel
theorem d20_27 : decode jdk_68_method_32_code 27 = .ok (.getfield 15, 3) := by decide +kernel
theorem d20_30 : decode jdk_68_method_32_code 30 = .ok (.invokestatic 248, 3) := by decide +kernel
theorem d20_33 : decode jdk_68_method_32_code 33 = .ok (.pop, 1) := by decide +kernel
theorem d20_34 : decode jdk_68_method_32_code 34 = .ok (.goto 14, 3) := by decide +kernel
theorem d20_48 : decode jdk_68_method_32_code 48 = .ok (.aload_n 0, 1) := by decide +kernel
theorem d20_49 : decode jdk_68_method_32_code 49 = .ok (.iload_n 3, 1) := by decide +kernel
theorem d20_50 : decode jdk_68_method_32_code 50 = .ok (.putfield 79, 3) := by decide +kernel
theorem d20_53 : decode jdk_68_method_32_code 53 = .ok (.aload_n 0, 1) := by decide +kernel
theorem d20_54 : decode jdk_68_method_32_code 54 = .ok (.areturn, 1) := by decide +kernel
theorem d21_0 : decode jdk_33_method_13_code 0 = .ok (.iconst 1, 1) := by decide +kernel
theorem d21_1 : decode jdk_33_method_13_code 1 = .ok (.istore_n 1, 1) := by decide +kernel
theorem d21_2 : decode jdk_33_method_13_code 2 = .ok (.iload_n 0, 1) := by decide +kernel
theorem d21_3 : decode jdk_33_method_13_code 3 = .ok (.ifCond .lt 8, 3) := by decide +kernel
theorem d21_6 : decode jdk_33_method_13_code 6 = .ok (.iconst 0, 1) := by decide +kernel
theorem d21_7 : decode jdk_33_method_13_code 7 = .ok (.istore_n 1, 1) := by decide +kernel
theorem d21_8 : decode jdk_33_method_13_code 8 = .ok (.iload_n 0, 1) := by decide +kernel
theorem d21_9 : decode jdk_33_method_13_code 9 = .ok (.ineg, 1) := by decide +kernel
theorem d21_10 : decode jdk_33_method_13_code 10 = .ok (.istore_n 0, 1) := by decide +kernel
theorem d21_11 : decode jdk_33_method_13_code 11 = .ok (.bipush (-10), 2) := by decide +kernel
theorem d21_13 : decode jdk_33_method_13_code 13 = .ok (.istore_n 2, 1) := by decide +kernel
theorem d21_14 : decode jdk_33_method_13_code 14 = .ok (.iconst 1, 1) := by decide +kernel
theorem d21_15 : decode jdk_33_method_13_code 15 = .ok (.istore_n 3, 1) := by decide +kernel
theorem d21_16 : decode jdk_33_method_13_code 16 = .ok (.iload_n 3, 1) := by decide +kernel
theorem d21_17 : decode jdk_33_method_13_code 17 = .ok (.bipush 10, 2) := by decide +kernel
theorem d21_19 : decode jdk_33_method_13_code 19 = .ok (.if_icmp .ge 23, 3) := by decide +kernel
theorem d21_22 : decode jdk_33_method_13_code 22 = .ok (.iload_n 0, 1) := by decide +kernel
theorem d21_23 : decode jdk_33_method_13_code 23 = .ok (.iload_n 2, 1) := by decide +kernel
theorem d21_24 : decode jdk_33_method_13_code 24 = .ok (.if_icmp .le 7, 3) := by decide +kernel
theorem d21_27 : decode jdk_33_method_13_code 27 = .ok (.iload_n 3, 1) := by decide +kernel
theorem d21_28 : decode jdk_33_method_13_code 28 = .ok (.iload_n 1, 1) := by decide +kernel
theorem d21_29 : decode jdk_33_method_13_code 29 = .ok (.iadd, 1) := by decide +kernel
theorem d21_30 : decode jdk_33_method_13_code 30 = .ok (.ireturn, 1) := by decide +kernel
theorem d21_31 : decode jdk_33_method_13_code 31 = .ok (.bipush 10, 2) := by decide +kernel
theorem d21_33 : decode jdk_33_method_13_code 33 = .ok (.iload_n 2, 1) := by decide +kernel
theorem d21_34 : decode jdk_33_method_13_code 34 = .ok (.imul, 1) := by decide +kernel
theorem d21_35 : decode jdk_33_method_13_code 35 = .ok (.istore_n 2, 1) := by decide +kernel
theorem d21_36 : decode jdk_33_method_13_code 36 = .ok (.iinc 3 1, 3) := by decide +kernel
theorem d21_39 : decode jdk_33_method_13_code 39 = .ok (.goto (-23), 3) := by decide +kernel
theorem d21_42 : decode jdk_33_method_13_code 42 = .ok (.bipush 10, 2) := by decide +kernel
theorem d21_44 : decode jdk_33_method_13_code 44 = .ok (.iload_n 1, 1) := by decide +kernel
theorem d21_45 : decode jdk_33_method_13_code 45 = .ok (.iadd, 1) := by decide +kernel
theorem d21_46 : decode jdk_33_method_13_code 46 = .ok (.ireturn, 1) := by decide +kernel
theorem d22_0 : decode jdk_68_method_68_code 0 = .ok (.getstatic 18, 3) := by decide +kernel
theorem d22_3 : decode jdk_68_method_68_code 3 = .ok (.ifCond .eq 14, 3) := by decide +kernel
theorem d22_6 : decode jdk_68_method_68_code 6 = .ok (.aload_n 0, 1) := by decide +kernel
theorem d22_7 : decode jdk_68_method_68_code 7 = .ok (.getfield 22, 3) := by decide +kernel
theorem d22_10 : decode jdk_68_method_68_code 10 = .ok (.ifCond .ne 7, 3) := by decide +kernel
theorem d22_13 : decode jdk_68_method_68_code 13 = .ok (.iconst 1, 1) := by decide +kernel
theorem d22_14 : decode jdk_68_method_68_code 14 = .ok (.goto 4, 3) := by decide +kernel
theorem d22_18 : decode jdk_68_method_68_code 18 = .ok (.ireturn, 1) := by decide +kernel
theorem d23_0 : decode jdk_33_method_12_code 0 = .ok (.iload_n 1, 1) := by decide +kernel
theorem d23_1 : decode jdk_33_method_12_code 1 = .ok (.istore 5, 2) := by decide +kernel
theorem d23_3 : decode jdk_33_method_12_code 3 = .ok (.iload_n 0, 1) := by decide +kernel
theorem d23_4 : decode jdk_33_method_12_code 4 = .ok (.ifCond .ge 7, 3) := by decide +kernel
theorem d23_7 : decode jdk_33_method_12_code 7 = .ok (.iconst 1, 1) := by decide +kernel
theorem d23_8 : decode jdk_33_method_12_code 8 = .ok (.goto 4, 3) := by decide +kernel
theorem d23_11 : decode jdk_33_method_12_code 11 = .ok (.iconst 0, 1) := by decide +kernel
theorem d23_12 : decode jdk_33_method_12_code 12 = .ok (.istore 6, 2) := by decide +kernel
theorem d23_14 : decode jdk_33_method_12_code 14 = .ok (.iload 6, 2) := by decide +kernel
theorem d23_16 : decode jdk_33_method_12_code 16 = .ok (.ifCond .ne 6, 3) := by decide +kernel
theorem d23_19 : decode jdk_33_method_12_code 19 = .ok (.iload_n 0, 1) := by decide +kernel
theorem d23_20 : decode jdk_33_method_12_code 20 = .ok (.ineg, 1) := by decide +kernel
theorem d23_21 : decode jdk_33_method_12_code 21 = .ok (.istore_n 0, 1) := by decide +kernel
theorem d23_22 : decode jdk_33_method_12_code 22 = .ok (.iload_n 0, 1) := by decide +kernel
theorem d23_23 : decode jdk_33_method_12_code 23 = .ok (.bipush (-100), 2) := by decide +kernel
theorem d23_25 : decode jdk_33_method_12_code 25 = .ok (.if_icmp .gt 47, 3) := by decide +kernel
theorem d23_28 : decode jdk_33_method_12_code 28 = .ok (.iload_n 0, 1) := by decide +kernel
theorem d23_29 : decode jdk_33_method_12_code 29 = .ok (.bipush 100, 2) := by decide +kernel
theorem d23_31 : decode jdk_33_method_12_code 31 = .ok (.idiv, 1) := by decide +kernel
theorem d23_32 : decode jdk_33_method_12_code 32 = .ok (.istore_n 3, 1) := by decide +kernel
theorem d23_33 : decode jdk_33_method_12_code 33 = .ok (.iload_n 3, 1) := by decide +kernel
theorem d23_34 : decode jdk_33_method_12_code 34 = .ok (.bipush 100, 2) := by decide +kernel
theorem d23_36 : decode jdk_33_method_12_code 36 = .ok (.imul, 1) := by decide +kernel
theorem d23_37 : decode jdk_33_method_12_code 37 = .ok (.iload_n 0, 1) := by decide +kernel
theorem d23_38 : decode jdk_33_method_12_code 38 = .ok (.isub, 1) := by decide +kernel
theorem d23_39 : decode jdk_33_method_12_code 39 = .ok (.istore 4, 2) := by decide +kernel
theorem d23_41 : decode jdk_33_method_12_code 41 = .ok (.iload_n 3, 1) := by decide +kernel
theorem d23_42 : decode jdk_33_method_12_code 42 = .ok (.istore_n 0, 1) := by decide +kernel
theorem d23_43 : decode jdk_33_method_12_code 43 = .ok (.aload_n 2, 1) := by decide +kernel
theorem d23_44 : decode jdk_33_method_12_code 44 = .ok (.iinc 5 (-1), 3) := by decide +kernel
theorem d23_47 : decode jdk_33_method_12_code 47 = .ok (.iload 5, 2) := by decide +kernel
theorem d23_49 : decode jdk_33_method_12_code 49 = .ok (.getstatic 83, 3) := by decide +kernel
theorem d23_52 : decode jdk_33_method_12_code 52 = .ok (.iload 4, 2) := by decide +kernel
theorem d23_54 : decode jdk_33_method_12_code 54 = .ok (.baload, 1) := by decide +kernel
theorem d23_55 : decode jdk_33_method_12_code 55 = .ok (.bastore, 1) := by decide +kernel
theorem d23_56 : decode jdk_33_method_12_code 56 = .ok (.aload_n 2, 1) := by decide +kernel
theorem d23_57 : decode jdk_33_method_12_code 57 = .ok (.iinc 5 (-1), 3) := by decide +kernel
theorem d23_60 : decode jdk_33_method_12_code 60 = .ok (.iload 5, 2) := by decide +kernel
theorem d23_62 : decode jdk_33_method_12_code 62 = .ok (.getstatic 87, 3) := by decide +kernel
theorem d23_65 : decode jdk_33_method_12_code 65 = .ok (.iload 4, 2) := by decide +kernel
theorem d23_67 : decode jdk_33_method_12_code 67 = .ok (.baload, 1) := by decide +kernel
theorem d23_68 : decode jdk_33_method_12_code 68 = .ok (.bastore, 1) := by decide +kernel
theorem d23_69 : decode jdk_33_method_12_code 69 = .ok (.goto (-47), 3) := by decide +kernel
theorem d23_72 : decode jdk_33_method_12_code 72 = .ok (.aload_n 2, 1) := by decide +kernel
theorem d23_73 : decode jdk_33_method_12_code 73 = .ok (.iinc 5 (-1), 3) := by decide +kernel
theorem d23_76 : decode jdk_33_method_12_code 76 = .ok (.iload 5, 2) := by decide +kernel
theorem d23_78 : decode jdk_33_method_12_code 78 = .ok (.getstatic 83, 3) := by decide +kernel
theorem d23_81 : decode jdk_33_method_12_code 81 = .ok (.iload_n 0, 1) := by decide +kernel
theorem d23_82 : decode jdk_33_method_12_code 82 = .ok (.ineg, 1) := by decide +kernel
theorem d23_83 : decode jdk_33_method_12_code 83 = .ok (.baload, 1) := by decide +kernel
theorem d23_84 : decode jdk_33_method_12_code 84 = .ok (.bastore, 1) := by decide +kernel
theorem d23_85 : decode jdk_33_method_12_code 85 = .ok (.iload_n 0, 1) := by decide +kernel
theorem d23_86 : decode jdk_33_method_12_code 86 = .ok (.bipush (-9), 2) := by decide +kernel
theorem d23_88 : decode jdk_33_method_12_code 88 = .ok (.if_icmp .ge 16, 3) := by decide +kernel
theorem d23_91 : decode jdk_33_method_12_code 91 = .ok (.aload_n 2, 1) := by decide +kernel
theorem d23_92 : decode jdk_33_method_12_code 92 = .ok (.iinc 5 (-1), 3) := by decide +kernel
theorem d23_95 : decode jdk_33_method_12_code 95 = .ok (.iload 5, 2) := by decide +kernel
theorem d23_97 : decode jdk_33_method_12_code 97 = .ok (.getstatic 87, 3) := by decide +kernel
theorem d23_100 : decode jdk_33_method_12_code 100 = .ok (.iload_n 0, 1) := by decide +kernel
theorem d23_101 : decode jdk_33_method_12_code 101 = .ok (.ineg, 1) := by decide +kernel
theorem d23_102 : decode jdk_33_method_12_code 102 = .ok (.baload, 1) := by decide +kernel
theorem d23_103 : decode jdk_33_method_12_code 103 = .ok (.bastore, 1) := by decide +kernel
theorem d23_104 : decode jdk_33_method_12_code 104 = .ok (.iload 6, 2) := by decide +kernel
theorem d23_106 : decode jdk_33_method_12_code 106 = .ok (.ifCond .eq 12, 3) := by decide +kernel
theorem d23_109 : decode jdk_33_method_12_code 109 = .ok (.aload_n 2, 1) := by decide +kernel
theorem d23_110 : decode jdk_33_method_12_code 110 = .ok (.iinc 5 (-1), 3) := by decide +kernel
theorem d23_113 : decode jdk_33_method_12_code 113 = .ok (.iload 5, 2) := by decide +kernel
theorem d23_115 : decode jdk_33_method_12_code 115 = .ok (.bipush 45, 2) := by decide +kernel
theorem d23_117 : decode jdk_33_method_12_code 117 = .ok (.bastore, 1) := by decide +kernel
theorem d23_118 : decode jdk_33_method_12_code 118 = .ok (.iload 5, 2) := by decide +kernel
theorem d23_120 : decode jdk_33_method_12_code 120 = .ok (.ireturn, 1) := by decide +kernel
theorem d24_0 : decode jdk_67_method_42_code 0 = .ok (.new 18, 3) := by decide +kernel
theorem d24_3 : decode jdk_67_method_42_code 3 = .ok (.dup, 1) := by decide +kernel
theorem d24_4 : decode jdk_67_method_42_code 4 = .ok (.aload_n 0, 1) := by decide +kernel
theorem d24_5 : decode jdk_67_method_42_code 5 = .ok (.invokespecial 137, 3) := by decide +kernel
theorem d24_8 : decode jdk_67_method_42_code 8 = .ok (.areturn, 1) := by decide +kernel
theorem d25_0 : decode jdk_42_method_53_code 0 = .ok (.aload_n 0, 1) := by decide +kernel
theorem d25_1 : decode jdk_42_method_53_code 1 = .ok (.aload_n 1, 1) := by decide +kernel
theorem d25_2 : decode jdk_42_method_53_code 2 = .ok (.aconst_null, 1) := by decide +kernel
theorem d25_3 : decode jdk_42_method_53_code 3 = .ok (.invokespecial 489, 3) := by decide +kernel
theorem d25_6 : decode jdk_42_method_53_code 6 = .ok (.return_, 1) := by decide +kernel
theorem d26_0 : decode jdk_42_method_150_code 0 = .ok (.aload_n 0, 1) := by decide +kernel
theorem d26_1 : decode jdk_42_method_150_code 1 = .ok (.invokespecial 1, 3) := by decide +kernel
theorem d26_4 : decode jdk_42_method_150_code 4 = .ok (.aload_n 1, 1) := by decide +kernel
theorem d26_5 : decode jdk_42_method_150_code 5 = .ok (.invokevirtual 552, 3) := by decide +kernel
theorem d26_8 : decode jdk_42_method_150_code 8 = .ok (.astore_n 3, 1) := by decide +kernel
theorem d26_9 : decode jdk_42_method_150_code 9 = .ok (.aload_n 1, 1) := by decide +kernel
theorem d26_10 : decode jdk_42_method_150_code 10 = .ok (.invokevirtual 549, 3) := by decide +kernel
theorem d26_13 : decode jdk_42_method_150_code 13 = .ok (.istore 4, 2) := by decide +kernel
theorem d26_15 : decode jdk_42_method_150_code 15 = .ok (.aload_n 1, 1) := by decide +kernel
theorem d26_16 : decode jdk_42_method_150_code 16 = .ok (.invokevirtual 1047, 3) := by decide +kernel
theorem d26_19 : decode jdk_42_method_150_code 19 = .ok (.ifCond .eq 22, 3) := by decide +kernel
theorem d26_22 : decode jdk_42_method_150_code 22 = .ok (.aload_n 0, 1) := by decide +kernel
theorem d26_23 : decode jdk_42_method_150_code 23 = .ok (.iconst 0, 1) := by decide +kernel
theorem d26_24 : decode jdk_42_method_150_code 24 = .ok (.putfield 15, 3) := by decide +kernel
theorem d26_27 : decode jdk_42_method_150_code 27 = .ok (.aload_n 0, 1) := by decide +kernel
theorem d26_28 : decode jdk_42_method_150_code 28 = .ok (.aload_n 3, 1) := by decide +kernel
theorem d26_29 : decode jdk_42_method_150_code 29 = .ok (.iconst 0, 1) := by decide +kernel
theorem d26_30 : decode jdk_42_method_150_code 30 = .ok (.iload 4, 2) := by decide +kernel
theorem d26_32 : decode jdk_42_method_150_code 32 = .ok (.invokestatic 54, 3) := by decide +kernel
theorem d26_35 : decode jdk_42_method_150_code 35 = .ok (.putfield 9, 3) := by decide +kernel
theorem d26_38 : decode jdk_42_method_150_code 38 = .ok (.goto 59, 3) := by decide +kernel
theorem d26_97 : decode jdk_42_method_150_code 97 = .ok (.return_, 1) := by decide +kernel
theorem d27_0 : decode jdk_68_method_64_code 0 = .ok (.aload_n 0, 1) := by decide +kernel
theorem d27_1 : decode jdk_68_method_64_code 1 = .ok (.getfield 15, 3) := by decide +kernel
theorem d27_4 : decode jdk_68_method_64_code 4 = .ok (.areturn, 1) := by decide +kernel
theorem d28_0 : decode jdk_67_method_93_code 0 = .ok (.aload_n 0, 1) := by decide +kernel
theorem d28_1 : decode jdk_67_method_93_code 1 = .ok (.invokespecial 343, 3) := by decide +kernel
theorem d28_4 : decode jdk_67_method_93_code 4 = .ok (.ireturn, 1) := by decide +kernel
theorem d29_0 : decode jdk_68_method_6_code 0 = .ok (.aload_n 0, 1) := by decide +kernel
theorem d29_1 : decode jdk_68_method_6_code 1 = .ok (.getfield 79, 3) := by decide +kernel
theorem d29_4 : decode jdk_68_method_6_code 4 = .ok (.ireturn, 1) := by decide +kernel
theorem d30_0 : decode jdk_65_method_132_code 0 = .ok (.iload_n 1, 1) := by decide +kernel
theorem d30_1 : decode jdk_65_method_132_code 1 = .ok (.ifCond .ne 9, 3) := by decide +kernel
theorem d30_4 : decode jdk_65_method_132_code 4 = .ok (.iload_n 2, 1) := by decide +kernel
theorem d30_5 : decode jdk_65_method_132_code 5 = .ok (.aload_n 0, 1) := by decide +kernel
theorem d30_6 : decode jdk_65_method_132_code 6 = .ok (.arraylength, 1) := by decide +kernel
theorem d30_7 : decode jdk_65_method_132_code 7 = .ok (.if_icmp .eq 10, 3) := by decide +kernel
theorem d30_10 : decode jdk_65_method_132_code 10 = .ok (.aload_n 0, 1) := by decide +kernel
theorem d30_11 : decode jdk_65_method_132_code 11 = .ok (.iload_n 1, 1) := by decide +kernel
theorem d30_12 : decode jdk_65_method_132_code 12 = .ok (.iload_n 2, 1) := by decide +kernel
theorem d30_13 : decode jdk_65_method_132_code 13 = .ok (.invokestatic 339, 3) := by decide +kernel
theorem d30_16 : decode jdk_65_method_132_code 16 = .ok (.areturn, 1) := by decide +kernel
theorem d30_17 : decode jdk_65_method_132_code 17 = .ok (.aload_n 0, 1) := by decide +kernel
theorem d30_18 : decode jdk_65_method_132_code 18 = .ok (.invokevirtual 310, 3) := by decide +kernel
theorem d30_21 : decode jdk_65_method_132_code 21 = .ok (.checkcast 311, 3) := by decide +kernel
theorem d30_24 : decode jdk_65_method_132_code 24 = .ok (.areturn, 1) := by decide +kernel
theorem d31_0 : decode jdk_65_method_133_code 0 = .ok (.iload_n 1, 1) := by decide +kernel
theorem d31_1 : decode jdk_65_method_133_code 1 = .ok (.iload_n 2, 1) := by decide +kernel
theorem d31_2 : decode jdk_65_method_133_code 2 = .ok (.invokestatic 343, 3) := by decide +kernel
theorem d31_5 : decode jdk_65_method_133_code 5 = .ok (.iload_n 2, 1) := by decide +kernel
theorem d31_6 : decode jdk_65_method_133_code 6 = .ok (.iload_n 1, 1) := by decide +kernel
theorem d31_7 : decode jdk_65_method_133_code 7 = .ok (.isub, 1) := by decide +kernel
theorem d31_8 : decode jdk_65_method_133_code 8 = .ok (.istore_n 3, 1) := by decide +kernel
theorem d31_9 : decode jdk_65_method_133_code 9 = .ok (.iload_n 3, 1) := by decide +kernel
theorem d31_10 : decode jdk_65_method_133_code 10 = .ok (.newarray .byte, 2) := by decide +kernel
theorem d31_12 : decode jdk_65_method_133_code 12 = .ok (.astore 4, 2) := by decide +kernel
theorem d31_14 : decode jdk_65_method_133_code 14 = .ok (.aload_n 0, 1) := by decide +kernel
theorem d31_15 : decode jdk_65_method_133_code 15 = .ok (.iload_n 1, 1) := by decide +kernel
theorem d31_16 : decode jdk_65_method_133_code 16 = .ok (.aload 4, 2) := by decide +kernel
theorem d31_18 : decode jdk_65_method_133_code 18 = .ok (.iconst 0, 1) := by decide +kernel
theorem d31_19 : decode jdk_65_method_133_code 19 = .ok (.aload_n 0, 1) := by decide +kernel
theorem d31_20 : decode jdk_65_method_133_code 20 = .ok (.arraylength, 1) := by decide +kernel
theorem d31_21 : decode jdk_65_method_133_code 21 = .ok (.iload_n 1, 1) := by decide +kernel
theorem d31_22 : decode jdk_65_method_133_code 22 = .ok (.isub, 1) := by decide +kernel
theorem d31_23 : decode jdk_65_method_133_code 23 = .ok (.iload_n 3, 1) := by decide +kernel
theorem d31_24 : decode jdk_65_method_133_code 24 = .ok (.invokestatic 304, 3) := by decide +kernel
theorem d31_27 : decode jdk_65_method_133_code 27 = .ok (.invokestatic 150, 3) := by decide +kernel
theorem d31_30 : decode jdk_65_method_133_code 30 = .ok (.aload 4, 2) := by decide +kernel
theorem d31_32 : decode jdk_65_method_133_code 32 = .ok (.areturn, 1) := by decide +kernel
theorem d32_0 : decode jdk_65_method_131_code 0 = .ok (.iload_n 1, 1) := by decide +kernel
theorem d32_1 : decode jdk_65_method_131_code 1 = .ok (.iload_n 0, 1) := by decide +kernel
theorem d32_2 : decode jdk_65_method_131_code 2 = .ok (.if_icmp .ge 35, 3) := by decide +kernel
theorem d32_37 : decode jdk_65_method_131_code 37 = .ok (.return_, 1) := by decide +kernel
theorem d33_0 : decode jdk_29_method_69_code 0 = .ok (.iload_n 0, 1) := by decide +kernel
theorem d33_1 : decode jdk_29_method_69_code 1 = .ok (.iload_n 1, 1) := by decide +kernel
theorem d33_2 : decode jdk_29_method_69_code 2 = .ok (.if_icmp .gt 7, 3) := by decide +kernel
theorem d33_5 : decode jdk_29_method_69_code 5 = .ok (.iload_n 0, 1) := by decide +kernel
theorem d33_6 : decode jdk_29_method_69_code 6 = .ok (.goto 4, 3) := by decide +kernel
theorem d33_9 : decode jdk_29_method_69_code 9 = .ok (.iload_n 1, 1) := by decide +kernel
theorem d33_10 : decode jdk_29_method_69_code 10 = .ok (.ireturn, 1) := by decide +kernel
theorem d34_0 : decode jdk_29_method_61_code 0 = .ok (.lload_n 0, 1) := by decide +kernel
theorem d34_1 : decode jdk_29_method_61_code 1 = .ok (.lconst 0, 1) := by decide +kernel
theorem d34_2 : decode jdk_29_method_61_code 2 = .ok (.lcmp, 1) := by decide +kernel
theorem d34_3 : decode jdk_29_method_61_code 3 = .ok (.ifCond .ge 8, 3) := by decide +kernel
theorem d34_6 : decode jdk_29_method_61_code 6 = .ok (.lload_n 0, 1) := by decide +kernel
theorem d34_7 : decode jdk_29_method_61_code 7 = .ok (.lneg, 1) := by decide +kernel
theorem d34_8 : decode jdk_29_method_61_code 8 = .ok (.goto 4, 3) := by decide +kernel
theorem d34_11 : decode jdk_29_method_61_code 11 = .ok (.lload_n 0, 1) := by decide +kernel
theorem d34_12 : decode jdk_29_method_61_code 12 = .ok (.lreturn, 1) := by decide +kernel
theorem d35_0 : decode method_4_code 0 = .ok (.iconst 1, 1) := by decide +kernel
theorem d35_1 : decode method_4_code 1 = .ok (.istore_n 2, 1) := by decide +kernel
theorem d35_2 : decode method_4_code 2 = .ok (.lload_n 0, 1) := by decide +kernel
theorem d35_3 : decode method_4_code 3 = .ok (.ldc2_w 47, 3) := by decide +kernel
theorem d35_6 : decode method_4_code 6 = .ok (.lcmp, 1) := by decide +kernel
theorem d35_7 : decode method_4_code 7 = .ok (.ifCond .lt 5, 3) := by decide +kernel
theorem d35_10 : decode method_4_code 10 = .ok (.iconst 2, 1) := by decide +kernel
theorem d35_11 : decode method_4_code 11 = .ok (.istore_n 2, 1) := by decide +kernel
theorem d35_12 : decode method_4_code 12 = .ok (.lload_n 0, 1) := by decide +kernel
theorem d35_13 : decode method_4_code 13 = .ok (.ldc2_w 49, 3) := by decide +kernel
theorem d35_16 : decode method_4_code 16 = .ok (.lcmp, 1) := by decide +kernel
theorem d35_17 : decode method_4_code 17 = .ok (.ifCond .lt 5, 3) := by decide +kernel
theorem d35_20 : decode method_4_code 20 = .ok (.iconst 3, 1) := by decide +kernel
theorem d35_21 : decode method_4_code 21 = .ok (.istore_n 2, 1) := by decide +kernel
theorem d35_22 : decode method_4_code 22 = .ok (.lload_n 0, 1) := by decide +kernel
theorem d35_23 : decode method_4_code 23 = .ok (.ldc2_w 51, 3) := by decide +kernel
theorem d35_26 : decode method_4_code 26 = .ok (.lcmp, 1) := by decide +kernel
theorem d35_27 : decode method_4_code 27 = .ok (.ifCond .lt 5, 3) := by decide +kernel
theorem d35_30 : decode method_4_code 30 = .ok (.iconst 4, 1) := by decide +kernel
theorem d35_31 : decode method_4_code 31 = .ok (.istore_n 2, 1) := by decide +kernel
theorem d35_32 : decode method_4_code 32 = .ok (.lload_n 0, 1) := by decide +kernel
theorem d35_33 : decode method_4_code 33 = .ok (.ldc2_w 53, 3) := by decide +kernel
theorem d35_36 : decode method_4_code 36 = .ok (.lcmp, 1) := by decide +kernel
theorem d35_37 : decode method_4_code 37 = .ok (.ifCond .lt 5, 3) := by decide +kernel
theorem d35_40 : decode method_4_code 40 = .ok (.iconst 5, 1) := by decide +kernel
theorem d35_41 : decode method_4_code 41 = .ok (.istore_n 2, 1) := by decide +kernel
theorem d35_42 : decode method_4_code 42 = .ok (.lload_n 0, 1) := by decide +kernel
theorem d35_43 : decode method_4_code 43 = .ok (.ldc2_w 55, 3) := by decide +kernel
theorem d35_46 : decode method_4_code 46 = .ok (.lcmp, 1) := by decide +kernel
theorem d35_47 : decode method_4_code 47 = .ok (.ifCond .lt 6, 3) := by decide +kernel
theorem d35_50 : decode method_4_code 50 = .ok (.bipush 6, 2) := by decide +kernel
theorem d35_52 : decode method_4_code 52 = .ok (.istore_n 2, 1) := by decide +kernel
theorem d35_53 : decode method_4_code 53 = .ok (.lload_n 0, 1) := by decide +kernel
theorem d35_54 : decode method_4_code 54 = .ok (.ldc2_w 57, 3) := by decide +kernel
theorem d35_57 : decode method_4_code 57 = .ok (.lcmp, 1) := by decide +kernel
theorem d35_58 : decode method_4_code 58 = .ok (.ifCond .lt 6, 3) := by decide +kernel
theorem d35_61 : decode method_4_code 61 = .ok (.bipush 7, 2) := by decide +kernel
theorem d35_63 : decode method_4_code 63 = .ok (.istore_n 2, 1) := by decide +kernel
theorem d35_64 : decode method_4_code 64 = .ok (.lload_n 0, 1) := by decide +kernel
theorem d35_65 : decode method_4_code 65 = .ok (.ldc2_w 59, 3) := by decide +kernel
theorem d35_68 : decode method_4_code 68 = .ok (.lcmp, 1) := by decide +kernel
theorem d35_69 : decode method_4_code 69 = .ok (.ifCond .lt 6, 3) := by decide +kernel
theorem d35_72 : decode method_4_code 72 = .ok (.bipush 8, 2) := by decide +kernel
theorem d35_74 : decode method_4_code 74 = .ok (.istore_n 2, 1) := by decide +kernel
theorem d35_75 : decode method_4_code 75 = .ok (.lload_n 0, 1) := by decide +kernel
theorem d35_76 : decode method_4_code 76 = .ok (.ldc2_w 61, 3) := by decide +kernel
theorem d35_79 : decode method_4_code 79 = .ok (.lcmp, 1) := by decide +kernel
theorem d35_80 : decode method_4_code 80 = .ok (.ifCond .lt 6, 3) := by decide +kernel
theorem d35_83 : decode method_4_code 83 = .ok (.bipush 9, 2) := by decide +kernel
theorem d35_85 : decode method_4_code 85 = .ok (.istore_n 2, 1) := by decide +kernel
theorem d35_86 : decode method_4_code 86 = .ok (.lload_n 0, 1) := by decide +kernel
theorem d35_87 : decode method_4_code 87 = .ok (.ldc2_w 63, 3) := by decide +kernel
theorem d35_90 : decode method_4_code 90 = .ok (.lcmp, 1) := by decide +kernel
theorem d35_91 : decode method_4_code 91 = .ok (.ifCond .lt 6, 3) := by decide +kernel
theorem d35_94 : decode method_4_code 94 = .ok (.bipush 10, 2) := by decide +kernel
theorem d35_96 : decode method_4_code 96 = .ok (.istore_n 2, 1) := by decide +kernel
theorem d35_97 : decode method_4_code 97 = .ok (.iload_n 2, 1) := by decide +kernel
theorem d35_98 : decode method_4_code 98 = .ok (.ireturn, 1) := by decide +kernel
theorem d36_0 : decode method_6_code 0 = .ok (.aload_n 2, 1) := by decide +kernel
theorem d36_1 : decode method_6_code 1 = .ok (.invokevirtual 29, 3) := by decide +kernel
theorem d36_4 : decode method_6_code 4 = .ok (.ifCond .le 18, 3) := by decide +kernel
theorem d36_7 : decode method_6_code 7 = .ok (.aload_n 0, 1) := by decide +kernel
theorem d36_8 : decode method_6_code 8 = .ok (.iload_n 1, 1) := by decide +kernel
theorem d36_9 : decode method_6_code 9 = .ok (.invokevirtual 39, 3) := by decide +kernel
theorem d36_12 : decode method_6_code 12 = .ok (.aload_n 2, 1) := by decide +kernel
theorem d36_13 : decode method_6_code 13 = .ok (.iconst 0, 1) := by decide +kernel
theorem d36_14 : decode method_6_code 14 = .ok (.invokevirtual 39, 3) := by decide +kernel
theorem d36_17 : decode method_6_code 17 = .ok (.if_icmp .eq 5, 3) := by decide +kernel
theorem d36_22 : decode method_6_code 22 = .ok (.aload_n 2, 1) := by decide +kernel
theorem d36_23 : decode method_6_code 23 = .ok (.invokevirtual 29, 3) := by decide +kernel
theorem d36_26 : decode method_6_code 26 = .ok (.iconst 1, 1) := by decide +kernel
theorem d36_27 : decode method_6_code 27 = .ok (.if_icmp .le 20, 3) := by decide +kernel
theorem d36_30 : decode method_6_code 30 = .ok (.aload_n 0, 1) := by decide +kernel
theorem d36_31 : decode method_6_code 31 = .ok (.iload_n 1, 1) := by decide +kernel
theorem d36_32 : decode method_6_code 32 = .ok (.iconst 1, 1) := by decide +kernel
theorem d36_33 : decode method_6_code 33 = .ok (.iadd, 1) := by decide +kernel
theorem d36_34 : decode method_6_code 34 = .ok (.invokevirtual 39, 3) := by decide +kernel
theorem d36_37 : decode method_6_code 37 = .ok (.aload_n 2, 1) := by decide +kernel
theorem d36_38 : decode method_6_code 38 = .ok (.iconst 1, 1) := by decide +kernel
theorem d36_39 : decode method_6_code 39 = .ok (.invokevirtual 39, 3) := by decide +kernel
theorem d36_42 : decode method_6_code 42 = .ok (.if_icmp .eq 5, 3) := by decide +kernel
theorem d36_47 : decode method_6_code 47 = .ok (.iconst 1, 1) := by decide +kernel
theorem d36_48 : decode method_6_code 48 = .ok (.ireturn, 1) := by decide +kernel
theorem d37_0 : decode jdk_42_method_56_code 0 = .ok (.aload_n 0, 1) := by decide +kernel
theorem d37_1 : decode jdk_42_method_56_code 1 = .ok (.invokevirtual 492, 3) := by decide +kernel
theorem d37_4 : decode jdk_42_method_56_code 4 = .ok (.ifCond .eq 12, 3) := by decide +kernel
theorem d37_7 : decode jdk_42_method_56_code 7 = .ok (.aload_n 0, 1) := by decide +kernel
theorem d37_8 : decode jdk_42_method_56_code 8 = .ok (.getfield 9, 3) := by decide +kernel
theorem d37_11 : decode jdk_42_method_56_code 11 = .ok (.iload_n 1, 1) := by decide +kernel
theorem d37_12 : decode jdk_42_method_56_code 12 = .ok (.invokestatic 495, 3) := by decide +kernel
theorem d37_15 : decode jdk_42_method_56_code 15 = .ok (.ireturn, 1) := by decide +kernel
theorem d38_0 : decode jdk_42_method_154_code 0 = .ok (.getstatic 38, 3) := by decide +kernel
theorem d38_3 : decode jdk_42_method_154_code 3 = .ok (.ifCond .eq 14, 3) := by decide +kernel
theorem d38_6 : decode jdk_42_method_154_code 6 = .ok (.aload_n 0, 1) := by decide +kernel
theorem d38_7 : decode jdk_42_method_154_code 7 = .ok (.getfield 15, 3) := by decide +kernel
theorem d38_10 : decode jdk_42_method_154_code 10 = .ok (.ifCond .ne 7, 3) := by decide +kernel
theorem d38_13 : decode jdk_42_method_154_code 13 = .ok (.iconst 1, 1) := by decide +kernel
theorem d38_14 : decode jdk_42_method_154_code 14 = .ok (.goto 4, 3) := by decide +kernel
theorem d38_18 : decode jdk_42_method_154_code 18 = .ok (.ireturn, 1) := by decide +kernel
theorem d39_0 : decode jdk_43_method_2_code 0 = .ok (.iload_n 1, 1) := by decide +kernel
theorem d39_1 : decode jdk_43_method_2_code 1 = .ok (.aload_n 0, 1) := by decide +kernel
theorem d39_2 : decode jdk_43_method_2_code 2 = .ok (.arraylength, 1) := by decide +kernel
theorem d39_3 : decode jdk_43_method_2_code 3 = .ok (.invokestatic 9, 3) := by decide +kernel
theorem d39_6 : decode jdk_43_method_2_code 6 = .ok (.aload_n 0, 1) := by decide +kernel
theorem d39_7 : decode jdk_43_method_2_code 7 = .ok (.iload_n 1, 1) := by decide +kernel
theorem d39_8 : decode jdk_43_method_2_code 8 = .ok (.baload, 1) := by decide +kernel
theorem d39_9 : decode jdk_43_method_2_code 9 = .ok (.sipush 255, 3) := by decide +kernel
theorem d39_12 : decode jdk_43_method_2_code 12 = .ok (.iand, 1) := by decide +kernel
theorem d39_13 : decode jdk_43_method_2_code 13 = .ok (.i2c, 1) := by decide +kernel
theorem d39_14 : decode jdk_43_method_2_code 14 = .ok (.ireturn, 1) := by decide +kernel
theorem d40_0 : decode jdk_42_method_155_code 0 = .ok (.iload_n 0, 1) := by decide +kernel
theorem d40_1 : decode jdk_42_method_155_code 1 = .ok (.iload_n 1, 1) := by decide +kernel
theorem d40_2 : decode jdk_42_method_155_code 2 = .ok (.getstatic 1053, 3) := by decide +kernel
theorem d40_5 : decode jdk_42_method_155_code 5 = .ok (.invokestatic 1059, 3) := by decide +kernel
theorem d40_8 : decode jdk_42_method_155_code 8 = .ok (.pop, 1) := by decide +kernel
theorem d40_9 : decode jdk_42_method_155_code 9 = .ok (.return_, 1) := by decide +kernel
theorem d41_0 : decode jdk_41_method_11_code 0 = .ok (.iload_n 0, 1) := by decide +kernel
theorem d41_1 : decode jdk_41_method_11_code 1 = .ok (.ifCond .lt 8, 3) := by decide +kernel
theorem d41_4 : decode jdk_41_method_11_code 4 = .ok (.iload_n 0, 1) := by decide +kernel
theorem d41_5 : decode jdk_41_method_11_code 5 = .ok (.iload_n 1, 1) := by decide +kernel
theorem d41_6 : decode jdk_41_method_11_code 6 = .ok (.if_icmp .lt 10, 3) := by decide +kernel
theorem d41_16 : decode jdk_41_method_11_code 16 = .ok (.iload_n 0, 1) := by decide +kernel
theorem d41_17 : decode jdk_41_method_11_code 17 = .ok (.ireturn, 1) := by decide +kernel
theorem d42_0 : decode method_5_code 0 = .ok (.aload_n 0, 1) := by decide +kernel
theorem d42_1 : decode method_5_code 1 = .ok (.iload_n 1, 1) := by decide +kernel
theorem d42_2 : decode method_5_code 2 = .ok (.invokevirtual 39, 3) := by decide +kernel
theorem d42_5 : decode method_5_code 5 = .ok (.bipush 48, 2) := by decide +kernel
theorem d42_7 : decode method_5_code 7 = .ok (.lload_n 2, 1) := by decide +kernel
theorem d42_8 : decode method_5_code 8 = .ok (.lload 4, 2) := by decide +kernel
theorem d42_10 : decode method_5_code 10 = .ok (.ldiv, 1) := by decide +kernel
theorem d42_11 : decode method_5_code 11 = .ok (.ldc2_w 47, 3) := by decide +kernel
theorem d42_14 : decode method_5_code 14 = .ok (.lrem, 1) := by decide +kernel
theorem d42_15 : decode method_5_code 15 = .ok (.l2i, 1) := by decide +kernel
theorem d42_16 : decode method_5_code 16 = .ok (.iadd, 1) := by decide +kernel
theorem d42_17 : decode method_5_code 17 = .ok (.i2c, 1) := by decide +kernel
theorem d42_18 : decode method_5_code 18 = .ok (.if_icmp .ne 7, 3) := by decide +kernel
theorem d42_21 : decode method_5_code 21 = .ok (.iconst 1, 1) := by decide +kernel
theorem d42_22 : decode method_5_code 22 = .ok (.goto 4, 3) := by decide +kernel
theorem d42_26 : decode method_5_code 26 = .ok (.ireturn, 1) := by decide +kernel
theorem d43_0 : decode jdk_68_method_10_code 0 = .ok (.aload_n 0, 1) := by decide +kernel
theorem d43_1 : decode jdk_68_method_10_code 1 = .ok (.getfield 15, 3) := by decide +kernel
theorem d43_4 : decode jdk_68_method_10_code 4 = .ok (.arraylength, 1) := by decide +kernel
theorem d43_5 : decode jdk_68_method_10_code 5 = .ok (.istore_n 2, 1) := by decide +kernel
theorem d43_6 : decode jdk_68_method_10_code 6 = .ok (.iload_n 1, 1) := by decide +kernel
theorem d43_7 : decode jdk_68_method_10_code 7 = .ok (.aload_n 0, 1) := by decide +kernel
theorem d43_8 : decode jdk_68_method_10_code 8 = .ok (.getfield 22, 3) := by decide +kernel
theorem d43_11 : decode jdk_68_method_10_code 11 = .ok (.ishl, 1) := by decide +kernel
theorem d43_12 : decode jdk_68_method_10_code 12 = .ok (.istore_n 3, 1) := by decide +kernel
theorem d43_13 : decode jdk_68_method_10_code 13 = .ok (.iload_n 3, 1) := by decide +kernel
theorem d43_14 : decode jdk_68_method_10_code 14 = .ok (.iload_n 2, 1) := by decide +kernel
theorem d43_15 : decode jdk_68_method_10_code 15 = .ok (.isub, 1) := by decide +kernel
theorem d43_16 : decode jdk_68_method_10_code 16 = .ok (.istore 4, 2) := by decide +kernel
theorem d43_18 : decode jdk_68_method_10_code 18 = .ok (.iload_n 2, 1) := by decide +kernel
theorem d43_19 : decode jdk_68_method_10_code 19 = .ok (.iload 4, 2) := by decide +kernel
theorem d43_21 : decode jdk_68_method_10_code 21 = .ok (.iload_n 2, 1) := by decide +kernel
theorem d43_22 : decode jdk_68_method_10_code 22 = .ok (.iconst 2, 1) := by decide +kernel
theorem d43_23 : decode jdk_68_method_10_code 23 = .ok (.aload_n 0, 1) := by decide +kernel
theorem d43_24 : decode jdk_68_method_10_code 24 = .ok (.getfield 22, 3) := by decide +kernel
theorem d43_27 : decode jdk_68_method_10_code 27 = .ok (.ishl, 1) := by decide +kernel
theorem d43_28 : decode jdk_68_method_10_code 28 = .ok (.iadd, 1) := by decide +kernel
theorem d43_29 : decode jdk_68_method_10_code 29 = .ok (.invokestatic 114, 3) := by decide +kernel
theorem d43_32 : decode jdk_68_method_10_code 32 = .ok (.istore 5, 2) := by decide +kernel
theorem d43_34 : decode jdk_68_method_10_code 34 = .ok (.iload 5, 2) := by decide +kernel
theorem d43_36 : decode jdk_68_method_10_code 36 = .ok (.ldc 39, 2) := by decide +kernel
theorem d43_38 : decode jdk_68_method_10_code 38 = .ok (.if_icmp .ne 13, 3) := by decide +kernel
theorem d43_51 : decode jdk_68_method_10_code 51 = .ok (.iload 5, 2) := by decide +kernel
theorem d43_53 : decode jdk_68_method_10_code 53 = .ok (.aload_n 0, 1) := by decide +kernel
theorem d43_54 : decode jdk_68_method_10_code 54 = .ok (.getfield 22, 3) := by decide +kernel
theorem d43_57 : decode jdk_68_method_10_code 57 = .ok (.ishr, 1) := by decide +kernel
theorem d43_58 : decode jdk_68_method_10_code 58 = .ok (.ireturn, 1) := by decide +kernel
theorem d44_0 : decode jdk_48_method_27_code 0 = .ok (.iload_n 0, 1) := by decide +kernel
theorem d44_1 : decode jdk_48_method_27_code 1 = .ok (.iload_n 1, 1) := by decide +kernel
theorem d44_2 : decode jdk_48_method_27_code 2 = .ok (.iload_n 2, 1) := by decide +kernel
theorem d44_3 : decode jdk_48_method_27_code 3 = .ok (.invokestatic 194, 3) := by decide +kernel
theorem d44_6 : decode jdk_48_method_27_code 6 = .ok (.iadd, 1) := by decide +kernel
theorem d44_7 : decode jdk_48_method_27_code 7 = .ok (.istore_n 3, 1) := by decide +kernel
theorem d44_8 : decode jdk_48_method_27_code 8 = .ok (.iconst 0, 1) := by decide +kernel
theorem d44_9 : decode jdk_48_method_27_code 9 = .ok (.iload_n 3, 1) := by decide +kernel
theorem d44_10 : decode jdk_48_method_27_code 10 = .ok (.if_icmp .ge 11, 3) := by decide +kernel
theorem d44_13 : decode jdk_48_method_27_code 13 = .ok (.iload_n 3, 1) := by decide +kernel
theorem d44_14 : decode jdk_48_method_27_code 14 = .ok (.ldc 200, 2) := by decide +kernel
theorem d44_16 : decode jdk_48_method_27_code 16 = .ok (.if_icmp .gt 5, 3) := by decide +kernel
theorem d44_19 : decode jdk_48_method_27_code 19 = .ok (.iload_n 3, 1) := by decide +kernel
theorem d44_20 : decode jdk_48_method_27_code 20 = .ok (.ireturn, 1) := by decide +kernel
theorem d45_0 : decode jdk_29_method_65_code 0 = .ok (.iload_n 0, 1) := by decide +kernel
theorem d45_1 : decode jdk_29_method_65_code 1 = .ok (.iload_n 1, 1) := by decide +kernel
theorem d45_2 : decode jdk_29_method_65_code 2 = .ok (.if_icmp .lt 7, 3) := by decide +kernel
theorem d45_5 : decode jdk_29_method_65_code 5 = .ok (.iload_n 0, 1) := by decide +kernel
theorem d45_6 : decode jdk_29_method_65_code 6 = .ok (.goto 4, 3) := by decide +kernel
theorem d45_9 : decode jdk_29_method_65_code 9 = .ok (.iload_n 1, 1) := by decide +kernel
theorem d45_10 : decode jdk_29_method_65_code 10 = .ok (.ireturn, 1) := by decide +kernel
theorem d46_0 : decode jdk_65_method_121_code 0 = .ok (.iload_n 1, 1) := by decide +kernel
theorem d46_1 : decode jdk_65_method_121_code 1 = .ok (.aload_n 0, 1) := by decide +kernel
theorem d46_2 : decode jdk_65_method_121_code 2 = .ok (.arraylength, 1) := by decide +kernel
theorem d46_3 : decode jdk_65_method_121_code 3 = .ok (.if_icmp .ne 11, 3) := by decide +kernel
theorem d46_14 : decode jdk_65_method_121_code 14 = .ok (.iload_n 1, 1) := by decide +kernel
theorem d46_15 : decode jdk_65_method_121_code 15 = .ok (.newarray .byte, 2) := by decide +kernel
theorem d46_17 : decode jdk_65_method_121_code 17 = .ok (.astore_n 2, 1) := by decide +kernel
theorem d46_18 : decode jdk_65_method_121_code 18 = .ok (.aload_n 0, 1) := by decide +kernel
theorem d46_19 : decode jdk_65_method_121_code 19 = .ok (.iconst 0, 1) := by decide +kernel
theorem d46_20 : decode jdk_65_method_121_code 20 = .ok (.aload_n 2, 1) := by decide +kernel
theorem d46_21 : decode jdk_65_method_121_code 21 = .ok (.iconst 0, 1) := by decide +kernel
theorem d46_22 : decode jdk_65_method_121_code 22 = .ok (.aload_n 0, 1) := by decide +kernel
theorem d46_23 : decode jdk_65_method_121_code 23 = .ok (.arraylength, 1) := by decide +kernel
theorem d46_24 : decode jdk_65_method_121_code 24 = .ok (.iload_n 1, 1) := by decide +kernel
theorem d46_25 : decode jdk_65_method_121_code 25 = .ok (.invokestatic 304, 3) := by decide +kernel
theorem d46_28 : decode jdk_65_method_121_code 28 = .ok (.invokestatic 150, 3) := by decide +kernel
theorem d46_31 : decode jdk_65_method_121_code 31 = .ok (.aload_n 2, 1) := by decide +kernel
theorem d46_32 : decode jdk_65_method_121_code 32 = .ok (.areturn, 1) := by decide +kernel
theorem pn0 : plainFor (⟨"java/lang/String", "coder", "()B"⟩ : MethodName) = true := by first | exact plainFor_of_name (by first | (simp [plainName, overriddenIn]; done) | decide +kernel) | decide +kernel
theorem pn1 : plainFor (⟨"java/lang/String", "length", "()I"⟩ : MethodName) = true := by first | exact plainFor_of_name (by first | (simp [plainName, overriddenIn]; done) | decide +kernel) | decide +kernel
theorem pn2 : plainFor (⟨"java/lang/Math", "min", "(II)I"⟩ : MethodName) = true := by first | exact plainFor_of_name (by first | (simp [plainName, overriddenIn]; done) | decide +kernel) | decide +kernel
theorem pn3 : plainFor (⟨"java/lang/AbstractStringBuilder", "<init>", "(I)V"⟩ : MethodName) = true := by first | exact plainFor_of_name (by first | (simp [plainName, overriddenIn]; done) | decide +kernel) | decide +kernel
theorem pn4 : plainFor (⟨"java/lang/StringBuilder", "<init>", "()V"⟩ : MethodName) = true := by first | exact plainFor_of_name (by first | (simp [plainName, overriddenIn]; done) | decide +kernel) | decide +kernel
theorem pn5 : plainFor (⟨"java/lang/Math", "max", "(II)I"⟩ : MethodName) = true := by first | exact plainFor_of_name (by first | (simp [plainName, overriddenIn]; done) | decide +kernel) | decide +kernel
theorem pn6 : plainFor (⟨"jdk/internal/util/ArraysSupport", "newLength", "(III)I"⟩ : MethodName) = true := by first | exact plainFor_of_name (by first | (simp [plainName, overriddenIn]; done) | decide +kernel) | decide +kernel
theorem pn7 : plainFor (⟨"java/lang/AbstractStringBuilder", "newCapacity", "(I)I"⟩ : MethodName) = true := by first | exact plainFor_of_name (by first | (simp [plainName, overriddenIn]; done) | decide +kernel) | decide +kernel
theorem pn8 : plainFor (⟨"java/util/Arrays", "copyOf", "([BI)[B"⟩ : MethodName) = true := by first | exact plainFor_of_name (by first | (simp [plainName, overriddenIn]; done) | decide +kernel) | decide +kernel
theorem pn9 : plainFor (⟨"java/lang/AbstractStringBuilder", "ensureCapacityInternal", "(I)V"⟩ : MethodName) = true := by first | exact plainFor_of_name (by first | (simp [plainName, overriddenIn]; done) | decide +kernel) | decide +kernel
theorem pn10 : plainFor (⟨"java/lang/AbstractStringBuilder", "inflateIfNeededFor", "(Ljava/lang/String;)V"⟩ : MethodName) = true := by first | exact plainFor_of_name (by first | (simp [plainName, overriddenIn]; done) | decide +kernel) | decide +kernel
theorem pn11 : plainFor (⟨"java/lang/String", "getBytes", "([BIB)V"⟩ : MethodName) = true := by first | exact plainFor_of_name (by first | (simp [plainName, overriddenIn]; done) | decide +kernel) | decide +kernel
theorem pn12 : plainFor (⟨"java/lang/AbstractStringBuilder", "putStringAt", "(ILjava/lang/String;)V"⟩ : MethodName) = true := by first | exact plainFor_of_name (by first | (simp [plainName, overriddenIn]; done) | decide +kernel) | decide +kernel
theorem pn13 : plainFor (⟨"java/lang/AbstractStringBuilder", "append", "(Ljava/lang/String;)Ljava/lang/AbstractStringBuilder;"⟩ : MethodName) = true := by first | exact plainFor_of_name (by first | (simp [plainName, overriddenIn]; done) | decide +kernel) | decide +kernel
theorem pn14 : plainFor (⟨"java/lang/StringBuilder", "append", "(Ljava/lang/String;)Ljava/lang/StringBuilder;"⟩ : MethodName) = true := by first | exact plainFor_of_name (by first | (simp [plainName, overriddenIn]; done) | decide +kernel) | decide +kernel
theorem pn15 : plainFor (⟨"java/lang/AbstractStringBuilder", "getValue", "()[B"⟩ : MethodName) = true := by first | exact plainFor_of_name (by first | (simp [plainName, overriddenIn]; done) | decide +kernel) | decide +kernel
theorem pn16 : plainFor (⟨"java/lang/AbstractStringBuilder", "length", "()I"⟩ : MethodName) = true := by first | exact plainFor_of_name (by first | (simp [plainName, overriddenIn]; done) | decide +kernel) | decide +kernel
theorem pn17 : plainFor (⟨"java/lang/StringBuilder", "length", "()I"⟩ : MethodName) = true := by first | exact plainFor_of_name (by first | (simp [plainName, overriddenIn]; done) | decide +kernel) | decide +kernel
theorem pn18 : plainFor (⟨"java/lang/AbstractStringBuilder", "isLatin1", "()Z"⟩ : MethodName) = true := by first | exact plainFor_of_name (by first | (simp [plainName, overriddenIn]; done) | decide +kernel) | decide +kernel
theorem pn19 : plainFor (⟨"java/util/Arrays", "checkLength", "(II)V"⟩ : MethodName) = true := by first | exact plainFor_of_name (by first | (simp [plainName, overriddenIn]; done) | decide +kernel) | decide +kernel
theorem pn20 : plainFor (⟨"java/util/Arrays", "copyOfRangeByte", "([BII)[B"⟩ : MethodName) = true := by first | exact plainFor_of_name (by first | (simp [plainName, overriddenIn]; done) | decide +kernel) | decide +kernel
theorem pn21 : plainFor (⟨"java/util/Arrays", "copyOfRange", "([BII)[B"⟩ : MethodName) = true := by first | exact plainFor_of_name (by first | (simp [plainName, overriddenIn]; done) | decide +kernel) | decide +kernel
theorem pn22 : plainFor (⟨"java/lang/String", "<init>", "(Ljava/lang/AbstractStringBuilder;Ljava/lang/Void;)V"⟩ : MethodName) = true := by first | exact plainFor_of_name (by first | (simp [plainName, overriddenIn]; done) | decide +kernel) | decide +kernel
theorem pn23 : plainFor (⟨"java/lang/String", "<init>", "(Ljava/lang/StringBuilder;)V"⟩ : MethodName) = true := by first | exact plainFor_of_name (by first | (simp [plainName, overriddenIn]; done) | decide +kernel) | decide +kernel
theorem pn24 : plainFor (⟨"java/lang/StringBuilder", "toString", "()Ljava/lang/String;"⟩ : MethodName) = true := by first | exact plainFor_of_name (by first | (simp [plainName, overriddenIn]; done) | decide +kernel) | decide +kernel
theorem pn25 : plainFor (⟨"java/lang/Integer", "stringSize", "(I)I"⟩ : MethodName) = true := by first | exact plainFor_of_name (by first | (simp [plainName, overriddenIn]; done) | decide +kernel) | decide +kernel
theorem pn26 : plainFor (⟨"java/lang/Integer", "getChars", "(II[B)I"⟩ : MethodName) = true := by first | exact plainFor_of_name (by first | (simp [plainName, overriddenIn]; done) | decide +kernel) | decide +kernel
theorem pn27 : plainFor (⟨"java/lang/AbstractStringBuilder", "append", "(I)Ljava/lang/AbstractStringBuilder;"⟩ : MethodName) = true := by first | exact plainFor_of_name (by first | (simp [plainName, overriddenIn]; done) | decide +kernel) | decide +kernel
theorem pn28 : plainFor (⟨"java/lang/StringBuilder", "append", "(I)Ljava/lang/StringBuilder;"⟩ : MethodName) = true := by first | exact plainFor_of_name (by first | (simp [plainName, overriddenIn]; done) | decide +kernel) | decide +kernel
theorem pn29 : plainFor (⟨"java/lang/String", "isLatin1", "()Z"⟩ : MethodName) = true := by first | exact plainFor_of_name (by first | (simp [plainName, overriddenIn]; done) | decide +kernel) | decide +kernel
theorem pn30 : plainFor (⟨"jdk/internal/util/Preconditions", "checkIndex", "(IILjava/util/function/BiFunction;)I"⟩ : MethodName) = true := by first | exact plainFor_of_name (by first | (simp [plainName, overriddenIn]; done) | decide +kernel) | decide +kernel
theorem pn31 : plainFor (⟨"java/lang/String", "checkIndex", "(II)V"⟩ : MethodName) = true := by first | exact plainFor_of_name (by first | (simp [plainName, overriddenIn]; done) | decide +kernel) | decide +kernel
theorem pn32 : plainFor (⟨"java/lang/StringLatin1", "charAt", "([BI)C"⟩ : MethodName) = true := by first | exact plainFor_of_name (by first | (simp [plainName, overriddenIn]; done) | decide +kernel) | decide +kernel
theorem pn33 : plainFor (⟨"java/lang/String", "charAt", "(I)C"⟩ : MethodName) = true := by first | exact plainFor_of_name (by first | (simp [plainName, overriddenIn]; done) | decide +kernel) | decide +kernel
theorem pn34 : plainFor (⟨"java/lang/StringUTF16", "compress", "([CI[BII)I"⟩ : MethodName) = true := by first | exact plainFor_of_name (by first | (simp [plainName, overriddenIn]; done) | decide +kernel) | decide +kernel
theorem pn35 : plainFor (⟨"java/lang/StringUTF16", "compress", "([CII)[B"⟩ : MethodName) = true := by first | exact plainFor_of_name (by first | (simp [plainName, overriddenIn]; done) | decide +kernel) | decide +kernel
theorem pn36 : plainFor (⟨"java/lang/StringUTF16", "coderFromArrayLen", "([BI)B"⟩ : MethodName) = true := by first | exact plainFor_of_name (by first | (simp [plainName, overriddenIn]; done) | decide +kernel) | decide +kernel
theorem pn37 : plainFor (⟨"java/lang/String", "<init>", "([CIILjava/lang/Void;)V"⟩ : MethodName) = true := by first | exact plainFor_of_name (by first | (simp [plainName, overriddenIn]; done) | decide +kernel) | decide +kernel
theorem pn38 : plainFor (⟨"java/lang/String", "<init>", "([C)V"⟩ : MethodName) = true := by first | exact plainFor_of_name (by first | (simp [plainName, overriddenIn]; done) | decide +kernel) | decide +kernel
theorem pn39 : plainFor (⟨"com/example/ranker/ranker/RunFileLinePinLaw", "mk", "(JI)Ljava/lang/String;"⟩ : MethodName) = true := by first | exact plainFor_of_name (by first | (simp [plainName, overriddenIn]; done) | decide +kernel) | decide +kernel
theorem pn40 : plainFor (⟨"java/lang/Math", "abs", "(J)J"⟩ : MethodName) = true := by first | exact plainFor_of_name (by first | (simp [plainName, overriddenIn]; done) | decide +kernel) | decide +kernel
theorem pn41 : plainFor (⟨"com/example/ranker/ranker/RunFileLinePinLaw", "digits", "(J)I"⟩ : MethodName) = true := by first | exact plainFor_of_name (by first | (simp [plainName, overriddenIn]; done) | decide +kernel) | decide +kernel
theorem pn42 : plainFor (⟨"com/example/ranker/ranker/RunFileLinePinLaw", "same", "(Ljava/lang/String;ILjava/lang/String;)Z"⟩ : MethodName) = true := by first | exact plainFor_of_name (by first | (simp [plainName, overriddenIn]; done) | decide +kernel) | decide +kernel
theorem pn43 : plainFor (⟨"com/example/ranker/ranker/RunFileLinePinLaw", "dig", "(Ljava/lang/String;IJJ)Z"⟩ : MethodName) = true := by first | exact plainFor_of_name (by first | (simp [plainName, overriddenIn]; done) | decide +kernel) | decide +kernel
theorem pn44 : plainFor (⟨"com/example/ranker/ranker/RunFile", "line", "(Ljava/lang/String;Ljava/lang/String;ILjava/lang/String;Ljava/lang/String;)Ljava/lang/String;"⟩ : MethodName) = true := by first | exact plainFor_of_name (by first | (simp [plainName, overriddenIn]; done) | decide +kernel) | decide +kernel
theorem pn45 : plainFor (⟨"com/example/ranker/ranker/RunFileLinePinLaw", "law", "(JJII)Z"⟩ : MethodName) = true := by first | exact plainFor_of_name (by first | (simp [plainName, overriddenIn]; done) | decide +kernel) | decide +kernel
theorem pd0 : parseMethodDescriptor "()B" = some ⟨[], some .byte⟩ := by decide +kernel
theorem pd1 : parseMethodDescriptor "(I)V" = some ⟨[.int], none⟩ := by decide +kernel
theorem pd2 : parseMethodDescriptor "(II)I" = some ⟨[.int, .int], some .int⟩ := by decide +kernel
theorem pd3 : parseMethodDescriptor "(III)I" = some ⟨[.int, .int, .int], some .int⟩ := by decide +kernel
theorem pd4 : parseMethodDescriptor "(I)I" = some ⟨[.int], some .int⟩ := by decide +kernel
theorem pd5 : parseMethodDescriptor "([BI)[B" = some ⟨[(.array .byte), .int], some (.array .byte)⟩ := by decide +kernel
theorem pd6 : parseMethodDescriptor "(Ljava/lang/String;)V" = some ⟨[(.object "java/lang/String")], none⟩ := by decide +kernel
theorem pd7 : parseMethodDescriptor "([BIB)V" = some ⟨[(.array .byte), .int, .byte], none⟩ := by decide +kernel
theorem pd8 : parseMethodDescriptor "()I" = some ⟨[], some .int⟩ := by decide +kernel
theorem pd9 : parseMethodDescriptor "(ILjava/lang/String;)V" = some ⟨[.int, (.object "java/lang/String")], none⟩ := by decide +kernel
theorem pd10 : parseMethodDescriptor "(Ljava/lang/String;)Ljava/lang/AbstractStringBuilder;" = some ⟨[(.object "java/lang/String")], some (.object "java/lang/AbstractStringBuilder")⟩ := by decide +kernel
theorem pd11 : parseMethodDescriptor "(II)V" = some ⟨[.int, .int], none⟩ := by decide +kernel
theorem pd12 : parseMethodDescriptor "([BII)[B" = some ⟨[(.array .byte), .int, .int], some (.array .byte)⟩ := by decide +kernel
theorem pd13 : parseMethodDescriptor "()[B" = some ⟨[], some (.array .byte)⟩ := by decide +kernel
theorem pd14 : parseMethodDescriptor "()Z" = some ⟨[], some .boolean⟩ := by decide +kernel
theorem pd15 : parseMethodDescriptor "(Ljava/lang/AbstractStringBuilder;Ljava/lang/Void;)V" = some ⟨[(.object "java/lang/AbstractStringBuilder"), (.object "java/lang/Void")], none⟩ := by decide +kernel
theorem pd16 : parseMethodDescriptor "(Ljava/lang/StringBuilder;)V" = some ⟨[(.object "java/lang/StringBuilder")], none⟩ := by decide +kernel
theorem pd17 : parseMethodDescriptor "(II[B)I" = some ⟨[.int, .int, (.array .byte)], some .int⟩ := by decide +kernel
theorem pd18 : parseMethodDescriptor "(I)Ljava/lang/AbstractStringBuilder;" = some ⟨[.int], some (.object "java/lang/AbstractStringBuilder")⟩ := by decide +kernel
theorem pd19 : parseMethodDescriptor "(IILjava/util/function/BiFunction;)I" = some ⟨[.int, .int, (.object "java/util/function/BiFunction")], some .int⟩ := by decide +kernel
theorem pd20 : parseMethodDescriptor "([BI)C" = some ⟨[(.array .byte), .int], some .char⟩ := by decide +kernel
theorem pd21 : parseMethodDescriptor "([CI[BII)I" = some ⟨[(.array .char), .int, (.array .byte), .int, .int], some .int⟩ := by decide +kernel
theorem pd22 : parseMethodDescriptor "([CII)[B" = some ⟨[(.array .char), .int, .int], some (.array .byte)⟩ := by decide +kernel
theorem pd23 : parseMethodDescriptor "([BI)B" = some ⟨[(.array .byte), .int], some .byte⟩ := by decide +kernel
theorem pd24 : parseMethodDescriptor "([CIILjava/lang/Void;)V" = some ⟨[(.array .char), .int, .int, (.object "java/lang/Void")], none⟩ := by decide +kernel
theorem pd25 : parseMethodDescriptor "([C)V" = some ⟨[(.array .char)], none⟩ := by decide +kernel
theorem pd26 : parseMethodDescriptor "(I)C" = some ⟨[.int], some .char⟩ := by decide +kernel
theorem pd27 : parseMethodDescriptor "()V" = some ⟨[], none⟩ := by decide +kernel
theorem pd28 : parseMethodDescriptor "(Ljava/lang/String;)Ljava/lang/StringBuilder;" = some ⟨[(.object "java/lang/String")], some (.object "java/lang/StringBuilder")⟩ := by decide +kernel
theorem pd29 : parseMethodDescriptor "(I)Ljava/lang/StringBuilder;" = some ⟨[.int], some (.object "java/lang/StringBuilder")⟩ := by decide +kernel
theorem pd30 : parseMethodDescriptor "()Ljava/lang/String;" = some ⟨[], some (.object "java/lang/String")⟩ := by decide +kernel
theorem pd31 : parseMethodDescriptor "(JI)Ljava/lang/String;" = some ⟨[.long, .int], some (.object "java/lang/String")⟩ := by decide +kernel
theorem pd32 : parseMethodDescriptor "(Ljava/lang/String;Ljava/lang/String;ILjava/lang/String;Ljava/lang/String;)Ljava/lang/String;" = some ⟨[(.object "java/lang/String"), (.object "java/lang/String"), .int, (.object "java/lang/String"), (.object "java/lang/String")], some (.object "java/lang/String")⟩ := by decide +kernel
theorem pd33 : parseMethodDescriptor "(J)J" = some ⟨[.long], some .long⟩ := by decide +kernel
theorem pd34 : parseMethodDescriptor "(J)I" = some ⟨[.long], some .int⟩ := by decide +kernel
theorem pd35 : parseMethodDescriptor "(Ljava/lang/String;ILjava/lang/String;)Z" = some ⟨[(.object "java/lang/String"), .int, (.object "java/lang/String")], some .boolean⟩ := by decide +kernel
theorem pd36 : parseMethodDescriptor "(Ljava/lang/String;IJJ)Z" = some ⟨[(.object "java/lang/String"), .int, .long, .long], some .boolean⟩ := by decide +kernel
theorem sn0 {Z : State} {a0 : Array Value} (hw : ∀ d ∈ tables_1, d.before a0 Z = true) : Jvm.RoadKit.slotOf Z "java/lang/AbstractStringBuilder" "coder" "B" ≠ Jvm.RoadKit.slotOf Z "java/lang/AbstractStringBuilder" "value" "[B" := slot_ne (C := "java/lang/StringBuilder") (Or.inl (w59 hw)) (Or.inl (w57 hw)) (by decide) (t := .byte) (by decide) (t' := (.array .byte)) (by decide)
theorem sn1 {Z : State} {a0 : Array Value} (hw : ∀ d ∈ tables_1, d.before a0 Z = true) : Jvm.RoadKit.slotOf Z "java/lang/AbstractStringBuilder" "count" "I" ≠ Jvm.RoadKit.slotOf Z "java/lang/AbstractStringBuilder" "value" "[B" := slot_ne (C := "java/lang/StringBuilder") (Or.inl (w81 hw)) (Or.inl (w57 hw)) (by decide) (t := .int) (by decide) (t' := (.array .byte)) (by decide)
theorem sn2 {Z : State} {a0 : Array Value} (hw : ∀ d ∈ tables_1, d.before a0 Z = true) : Jvm.RoadKit.slotOf Z "java/lang/AbstractStringBuilder" "value" "[B" ≠ Jvm.RoadKit.slotOf Z "java/lang/AbstractStringBuilder" "coder" "B" := slot_ne (C := "java/lang/StringBuilder") (Or.inl (w57 hw)) (Or.inl (w59 hw)) (by decide) (t := (.array .byte)) (by decide) (t' := .byte) (by decide)
theorem sn3 {Z : State} {a0 : Array Value} (hw : ∀ d ∈ tables_1, d.before a0 Z = true) : Jvm.RoadKit.slotOf Z "java/lang/AbstractStringBuilder" "count" "I" ≠ Jvm.RoadKit.slotOf Z "java/lang/AbstractStringBuilder" "coder" "B" := slot_ne (C := "java/lang/StringBuilder") (Or.inl (w81 hw)) (Or.inl (w59 hw)) (by decide) (t := .int) (by decide) (t' := .byte) (by decide)
theorem sn4 {Z : State} {a0 : Array Value} (hw : ∀ d ∈ tables_1, d.before a0 Z = true) : Jvm.RoadKit.slotOf Z "java/lang/AbstractStringBuilder" "value" "[B" ≠ Jvm.RoadKit.slotOf Z "java/lang/AbstractStringBuilder" "count" "I" := slot_ne (C := "java/lang/StringBuilder") (Or.inl (w57 hw)) (Or.inl (w81 hw)) (by decide) (t := (.array .byte)) (by decide) (t' := .int) (by decide)
theorem sn5 {Z : State} {a0 : Array Value} (hw : ∀ d ∈ tables_1, d.before a0 Z = true) : Jvm.RoadKit.slotOf Z "java/lang/AbstractStringBuilder" "coder" "B" ≠ Jvm.RoadKit.slotOf Z "java/lang/AbstractStringBuilder" "count" "I" := slot_ne (C := "java/lang/StringBuilder") (Or.inl (w59 hw)) (Or.inl (w81 hw)) (by decide) (t := .byte) (by decide) (t' := .int) (by decide)
theorem sn6 {Z : State} {a0 : Array Value} (hw : ∀ d ∈ tables_1, d.before a0 Z = true) : Jvm.RoadKit.slotOf Z "java/lang/String" "value" "[B" ≠ Jvm.RoadKit.slotOf Z "java/lang/String" "coder" "B" := slot_ne (C := "java/lang/String") (Or.inr (w34 hw)) (Or.inr (w32 hw)) (by decide) (t := (.array .byte)) (by decide) (t' := .byte) (by decide)
theorem sn7 {Z : State} {a0 : Array Value} (hw : ∀ d ∈ tables_1, d.before a0 Z = true) : Jvm.RoadKit.slotOf Z "java/lang/String" "coder" "B" ≠ Jvm.RoadKit.slotOf Z "java/lang/String" "value" "[B" := slot_ne (C := "java/lang/String") (Or.inr (w32 hw)) (Or.inr (w34 hw)) (by decide) (t := .byte) (by decide) (t' := (.array .byte)) (by decide)

/-- a Latin-1 StringBuilder of these signs, -/
def own_SN (Z : State) (h : Heap) (a b : Nat) (k : ClassId) (vs : List Value) (cs : List Nat) : Prop := Exa Z h a "java/lang/StringBuilder" ∧ Fld Z h a "java/lang/AbstractStringBuilder" "value" "[B" (.ref b) ∧ Fld Z h a "java/lang/AbstractStringBuilder" "coder" "B" (.int 0) ∧ Fld Z h a "java/lang/AbstractStringBuilder" "count" "I" (.int (i32 cs.length)) ∧ AV Z h b k .byte vs (.int 0) ∧ (vs.length = 16 ∨ vs.length = 34) ∧ vs.take cs.length = (cs.map by8).map Value.int ∧ cs.length ≤ vs.length ∧ a ≠ b ∧ Exa Z h b "[B"
theorem own_SN.ext {Z : State} {h h' : Heap} {a b : Nat} {k : ClassId} {vs : List Value} {cs : List Nat} (F : own_SN Z h a b k vs cs) (E : Ext h h') : own_SN Z h' a b k vs cs := ⟨F.1.ext E, F.2.1.ext E, F.2.2.1.ext E, F.2.2.2.1.ext E, F.2.2.2.2.1.ext E, F.2.2.2.2.2.1, F.2.2.2.2.2.2.1, F.2.2.2.2.2.2.2.1, F.2.2.2.2.2.2.2.2.1, F.2.2.2.2.2.2.2.2.2.ext E⟩
theorem own_SN.keep {Z : State} {h h' : Heap} {a b : Nat} {k : ClassId} {vs : List Value} {cs : List Nat} {ws : List Addr} (F : own_SN Z h a b k vs cs) (Kp : Keep h h' ws) (q1 : a ∉ ws) (q2 : b ∉ ws) : own_SN Z h' a b k vs cs := ⟨F.1.keep Kp, F.2.1.keep Kp q1, F.2.2.1.keep Kp q1, F.2.2.2.1.keep Kp q1, F.2.2.2.2.1.keep Kp q2, F.2.2.2.2.2.1, F.2.2.2.2.2.2.1, F.2.2.2.2.2.2.2.1, F.2.2.2.2.2.2.2.2.1, F.2.2.2.2.2.2.2.2.2.keep Kp⟩
theorem own_sbtake {vs ds : List Value} {n : Nat} (h : n + ds.length ≤ vs.length) : (vs.take n ++ ds ++ vs.drop (n + ds.length)).take (n + ds.length) = vs.take n ++ ds := by
  rw [List.take_append_of_le_length (by rw [List.length_append, List.length_take]; omega), List.take_of_length_le (by rw [List.length_append, List.length_take]; omega)]
theorem own_shl0 (x : Int32) : x <<< ((0 : Int32) &&& 31) = x := by
  show x <<< (0 : Int32) = x
  simp
theorem own_suble {m n : Nat} (hm : m < 1000000) (hn : n < 1000000) : (0 : Int32) < i32 m - i32 n ↔ n < m := by
  have e : (i32 m - i32 n).toInt = (m : Int) - n := by
    rw [Int32.toInt_sub, i32_toInt (by omega), i32_toInt (by omega)]
    exact bm32 (by omega) (by omega)
  rw [Int32.lt_iff_toInt_lt, e]; show (0 : Int) < _ ↔ _; omega

/-- the decimal signs of a number -/
def own_dig (n : Nat) : List Nat := if n < 10 then [48 + n] else own_dig (n / 10) ++ [48 + n % 10]
termination_by n
theorem own_dig1 {n : Nat} (h : n < 10) : own_dig n = [48 + n] := by rw [own_dig, if_pos h]
theorem own_digS {n : Nat} (h : ¬ n < 10) : own_dig n = own_dig (n / 10) ++ [48 + n % 10] := by rw [own_dig, if_neg h]
theorem own_dig2 {n : Nat} (h : ¬ n < 10) (h2 : n < 100) : own_dig n = [48 + n / 10, 48 + n % 10] := by rw [own_digS h, own_dig1 (by omega)]; rfl
theorem own_dig3 {n : Nat} (h : 100 ≤ n) : own_dig n = own_dig (n / 100) ++ [48 + n % 100 / 10, 48 + n % 100 % 10] := by
  rw [own_digS (by omega), own_digS (n := n / 10) (by omega), List.append_assoc, Nat.div_div_eq_div_mul, show n % 100 / 10 = n / 10 % 10 by omega, show n % 100 % 10 = n % 10 by omega]; rfl
theorem own_digpos (n : Nat) : 1 ≤ (own_dig n).length := by
  rw [own_dig]; split
  · simp
  · simp
theorem own_dlen : ∀ (k n : Nat), (own_dig n).length ≤ k + 1 ↔ n < 10 ^ (k + 1)
  | 0, n => by
    by_cases h : n < 10
    · rw [own_dig1 h]; simp; exact h
    · rw [own_digS h]; have := own_digpos (n / 10); simp only [List.length_append, List.length_singleton]; omega
  | k + 1, n => by
    by_cases h : n < 10
    · rw [own_dig1 h]
      have : 10 ^ 1 ≤ 10 ^ (k + 1 + 1) := Nat.pow_le_pow_right (by decide) (by omega)
      simp only [List.length_singleton]; omega
    · rw [own_digS h, List.length_append, List.length_singleton]
      have := own_dlen k (n / 10)
      rw [Nat.div_lt_iff_lt_mul (by decide), ← Nat.pow_succ] at this
      omega
theorem own_dlt (j n : Nat) (h : 0 < n ∨ j = 0) : j < (own_dig n).length ↔ (10 ^ j ≤ n ∨ j = 0) := by
  cases j with
  | zero => have := own_digpos n; simp; omega
  | succ k => have := own_dlen k n; simp only [Nat.add_one_ne_zero, or_false]; omega
theorem own_dget : ∀ (j n : Nat), j < (own_dig n).length → (own_dig n)[(own_dig n).length - 1 - j]? = some (48 + n / 10 ^ j % 10)
  | 0, n, _ => by
    by_cases h : n < 10
    · rw [own_dig1 h]; simp; omega
    · rw [own_digS h]; simp
  | j + 1, n, hj => by
    by_cases h : n < 10
    · rw [own_dig1 h] at hj; simp at hj
    · rw [own_digS h] at hj ⊢
      rw [List.length_append, List.length_singleton] at hj ⊢
      have ih := own_dget j (n / 10) (by omega)
      rw [List.getElem?_append_left (by omega), show (own_dig (n / 10)).length + 1 - 1 - (j + 1) = (own_dig (n / 10)).length - 1 - j by omega, ih, Nat.div_div_eq_div_mul, Nat.pow_succ, Nat.mul_comm]
theorem own_dmem : ∀ (k n : Nat), n < 10 ^ (k + 1) → ∀ c ∈ own_dig n, c < 58
  | 0, n, h, c, hc => by rw [own_dig1 (by simpa using h)] at hc; simp at hc; omega
  | k + 1, n, h, c, hc => by
    by_cases h1 : n < 10
    · rw [own_dig1 h1] at hc; simp at hc; omega
    · rw [own_digS h1] at hc
      rcases List.mem_append.mp hc with z | z
      · exact own_dmem k (n / 10) (by rw [Nat.div_lt_iff_lt_mul (by decide), ← Nat.pow_succ]; exact h) c z
      · simp at z; omega
/-- minus a number -/
def own_m (n : Nat) : Int32 := -(i32 n)
theorem own_mInt {n : Nat} (h : n ≤ 2147483648) : (own_m n).toInt = -(n : Int) := by
  unfold own_m i32
  rw [Int32.toInt_neg]
  rcases Nat.lt_or_ge n 2147483648 with h | h'
  · rw [show (Int32.ofNat n).toInt = (n : Int) from i32_toInt h, bm32 (by omega) (by omega)]
  · obtain rfl : n = 2147483648 := by omega
    rfl
theorem own_mlt {a b : Nat} (ha : a ≤ 2147483648) (hb : b ≤ 2147483648) : own_m a < own_m b ↔ b < a := by
  rw [Int32.lt_iff_toInt_lt, own_mInt ha, own_mInt hb]; omega
theorem own_mneg {x : Int32} (h : x < 0) : x = own_m x.toInt.natAbs ∧ x.toInt.natAbs ≤ 2147483648 ∧ 0 < x.toInt.natAbs := by
  have h0 : x.toInt < 0 := Int32.lt_iff_toInt_lt.mp h
  have := x.le_toInt
  have hb : x.toInt.natAbs ≤ 2147483648 := by omega
  refine ⟨Int32.toInt_inj.mp ?_, hb, by omega⟩
  rw [own_mInt hb]; omega
theorem own_mpos {x : Int32} (h : ¬ x < 0) : -x = own_m x.toInt.natAbs ∧ x.toInt.natAbs < 2147483648 := by
  have h0 : ¬ x.toInt < 0 := fun z => h (Int32.lt_iff_toInt_lt.mpr z)
  have := x.toInt_lt
  have hb : x.toInt.natAbs < 2147483648 := by omega
  refine ⟨Int32.toInt_inj.mp ?_, hb⟩
  rw [own_mInt (by omega), Int32.toInt_neg, show -x.toInt = -(x.toInt.natAbs : Int) by omega, bm32 (by omega) (by omega)]
theorem own_mmul (a b : Nat) : i32 a * own_m b = own_m (a * b) := by
  unfold own_m; rw [Int32.mul_neg, i32_mul]
theorem own_mdiv {n : Nat} (h : n ≤ 2147483648) : own_m n / 100 = own_m (n / 100) := by
  refine Int32.toInt_inj.mp ?_
  rw [Int32.toInt_div_of_ne_right _ _ (by decide), own_mInt h, own_mInt (by omega), show (100 : Int32).toInt = 100 from rfl, Int.neg_tdiv]; rfl
theorem own_mrem {n : Nat} (h : n ≤ 2147483648) : own_m (n / 100) * 100 - own_m n = i32 (n % 100) := by
  refine Int32.toInt_inj.mp ?_
  rw [Int32.toInt_sub, Int32.toInt_mul, own_mInt h, own_mInt (by omega), i32_toInt (by omega), show (100 : Int32).toInt = 100 from rfl, bm32 (n := -((n / 100 : Nat) : Int) * 100) (by omega) (by omega), bm32 (by omega) (by omega)]
  omega
theorem own_mback {n : Nat} : -(own_m n) = i32 n := by unfold own_m; exact Int32.neg_neg
theorem own_setp {α : Type} (vs R : List α) (p : Nat) (v : α) (h : p + 1 ≤ vs.length) : (vs.take (p + 1) ++ R).set p v = vs.take p ++ (v :: R) := by
  rw [List.set_append_left _ _ (by rw [List.length_take]; omega), List.take_add_one, List.getElem?_eq_getElem (by omega), List.set_append_right _ _ (by rw [List.length_take]; omega)]
  simp [List.length_take, Nat.min_eq_left (show p ≤ vs.length by omega)]
/-- the signs of an int -/
def own_num (x : Int32) : List Nat := (if x < 0 then [45] else []) ++ own_dig x.toInt.natAbs
theorem own_numLen (x : Int32) : (own_num x).length ≤ 11 ∧ (own_dig x.toInt.natAbs).length ≤ 10 := by
  have h1 := x.le_toInt
  have h2 := x.toInt_lt
  have := (own_dlen 9 x.toInt.natAbs).mpr (by omega)
  unfold own_num
  rw [List.length_append]; split <;> simp <;> omega
theorem own_numMem (x : Int32) : ∀ c ∈ own_num x, c < 128 := by
  have h1 := x.le_toInt
  have h2 := x.toInt_lt
  intro c hc
  rcases List.mem_append.mp hc with z | z
  · split at z <;> simp at z; omega
  · have := own_dmem 9 x.toInt.natAbs (by omega) c z; omega
theorem own_m10 : (-10 : Int32) = own_m (10 ^ 1) := by decide
theorem own_mstep (i : Nat) : (10 : Int32) * own_m (10 ^ i) = own_m (10 ^ (i + 1)) := by
  rw [show (10 : Int32) = i32 10 from rfl, own_mmul, Nat.pow_succ, Nat.mul_comm]
theorem own_m100 {n : Nat} (h : n ≤ 2147483648) : (-100 : Int32) < own_m n ↔ n < 100 := by
  rw [show (-100 : Int32) = own_m 100 by decide, own_mlt (by decide) h]
theorem own_m9 {n : Nat} (h : n ≤ 2147483648) : own_m n < (-9 : Int32) ↔ 9 < n := by
  rw [show (-9 : Int32) = own_m 9 by decide, own_mlt h (by decide)]
theorem own_dec1 (p : Nat) : i32 (p + 1) + (-1 : Int32) = i32 p := by
  rw [← i32_add, show i32 1 = (1 : Int32) from rfl, Int32.add_assoc, show (1 : Int32) + -1 = 0 by decide, Int32.add_zero]
theorem own_pow9 {i : Nat} (h : i < 10) : 10 ^ i ≤ 1000000000 := Nat.pow_le_pow_right (n := 10) (by decide) (show i ≤ 9 by omega)
def own_ones : List Value := (List.range 100).map (fun j => Value.int (by8 (48 + j % 10)))
def own_tens : List Value := (List.range 100).map (fun j => Value.int (by8 (48 + j / 10)))
theorem own_onesAt {j : Nat} (h : j < 100) : own_ones[j]? = some (.int (by8 (48 + j % 10))) := by simp [own_ones, h]
theorem own_tensAt {j : Nat} (h : j < 100) : own_tens[j]? = some (.int (by8 (48 + j / 10))) := by simp [own_tens, h]
/-- Integer's two tables of signs, as the start has them -/
def own_DT (Z : State) (t1 t2 : Nat) (q1 q2 : ClassId) : Prop := Sta Z Z.heap "java/lang/Integer" "DigitOnes" "[B" (.ref t1) ∧ Sta Z Z.heap "java/lang/Integer" "DigitTens" "[B" (.ref t2) ∧ AV Z Z.heap t1 q1 .byte own_ones (.int 0) ∧ AV Z Z.heap t2 q2 .byte own_tens (.int 0)

def own_line (qs ps : List Nat) (y : Int32) (ss ts : List Nat) : List Nat := qs ++ ([32, 81, 48, 32] ++ (ps ++ ([32] ++ (own_num y ++ ([32] ++ (ss ++ ([32] ++ ts)))))))
theorem own_nx (A B : List Nat) (n : Nat) (h : A.length = n) (i : Nat) : (A ++ B)[n + i]? = B[i]? := by
  subst h; rw [List.getElem?_append_right (by omega), Nat.add_sub_cancel_left]
theorem own_fst {A B : List Nat} {i c : Nat} (h : A[i]? = some c) : (A ++ B)[i]? = some c := by
  rw [List.getElem?_append_left (lt_of_get h)]; exact h
theorem own_lineLen (qs ps : List Nat) (y : Int32) (ss ts : List Nat) : (own_line qs ps y ss ts).length = qs.length + 4 + ps.length + 1 + (own_num y).length + 1 + ss.length + 1 + ts.length := by
  simp only [own_line, List.length_append, List.length_cons, List.length_nil]; omega
theorem own_lineQ {qs ps : List Nat} {y : Int32} {ss ts : List Nat} : ∀ j c, qs[j]? = some c → (own_line qs ps y ss ts)[0 + j]? = some c := fun j c h => by rw [Nat.zero_add]; exact own_fst h
theorem own_line1 {qs ps : List Nat} {y : Int32} {ss ts : List Nat} {i c : Nat} (h : ([32, 81, 48, 32] : List Nat)[i]? = some c) : (own_line qs ps y ss ts)[qs.length + i]? = some c := by
  rw [own_line, own_nx _ _ _ rfl]; exact own_fst h
theorem own_lineP {qs ps : List Nat} {y : Int32} {ss ts : List Nat} : ∀ j c, ps[j]? = some c → (own_line qs ps y ss ts)[qs.length + 4 + j]? = some c := fun j c h => by
  rw [own_line, Nat.add_assoc, own_nx _ _ _ rfl, own_nx _ _ 4 rfl]; exact own_fst h
theorem own_line2 {qs ps : List Nat} {y : Int32} {ss ts : List Nat} : (own_line qs ps y ss ts)[qs.length + 4 + ps.length]? = some 32 := by
  rw [own_line, Nat.add_assoc, own_nx _ _ _ rfl, own_nx _ _ 4 rfl, show ps.length = ps.length + 0 from rfl, own_nx _ _ _ rfl]; rfl
theorem own_lineN {qs ps : List Nat} {y : Int32} {ss ts : List Nat} {j c : Nat} (h : (own_num y)[j]? = some c) : (own_line qs ps y ss ts)[qs.length + 4 + ps.length + 1 + j]? = some c := by
  rw [own_line, show qs.length + 4 + ps.length + 1 + j = qs.length + (4 + (ps.length + (1 + j))) by omega, own_nx _ _ _ rfl, own_nx _ _ 4 rfl, own_nx _ _ _ rfl, own_nx _ _ 1 rfl]; exact own_fst h
theorem own_line3 {qs ps : List Nat} {y : Int32} {ss ts : List Nat} {n : Nat} (hn : n = (own_num y).length) : (own_line qs ps y ss ts)[qs.length + 4 + ps.length + 1 + n]? = some 32 := by
  rw [own_line, show qs.length + 4 + ps.length + 1 + n = qs.length + (4 + (ps.length + (1 + ((own_num y).length + 0)))) by omega, own_nx _ _ _ rfl, own_nx _ _ 4 rfl, own_nx _ _ _ rfl, own_nx _ _ 1 rfl, own_nx _ _ _ rfl]; rfl
theorem own_lineS {qs ps : List Nat} {y : Int32} {ss ts : List Nat} {n : Nat} (hn : n = (own_num y).length) : ∀ j c, ss[j]? = some c → (own_line qs ps y ss ts)[qs.length + 4 + ps.length + 1 + n + 1 + j]? = some c := fun j c h => by
  rw [own_line, show qs.length + 4 + ps.length + 1 + n + 1 + j = qs.length + (4 + (ps.length + (1 + ((own_num y).length + (1 + j))))) by omega, own_nx _ _ _ rfl, own_nx _ _ 4 rfl, own_nx _ _ _ rfl, own_nx _ _ 1 rfl, own_nx _ _ _ rfl, own_nx _ _ 1 rfl]; exact own_fst h
theorem own_line4 {qs ps : List Nat} {y : Int32} {ss ts : List Nat} {n : Nat} (hn : n = (own_num y).length) : (own_line qs ps y ss ts)[qs.length + 4 + ps.length + 1 + n + 1 + ss.length]? = some 32 := by
  rw [own_line, show qs.length + 4 + ps.length + 1 + n + 1 + ss.length = qs.length + (4 + (ps.length + (1 + ((own_num y).length + (1 + (ss.length + 0)))))) by omega, own_nx _ _ _ rfl, own_nx _ _ 4 rfl, own_nx _ _ _ rfl, own_nx _ _ 1 rfl, own_nx _ _ _ rfl, own_nx _ _ 1 rfl, own_nx _ _ _ rfl]; rfl
theorem own_lineT {qs ps : List Nat} {y : Int32} {ss ts : List Nat} {n : Nat} (hn : n = (own_num y).length) : ∀ j c, ts[j]? = some c → (own_line qs ps y ss ts)[qs.length + 4 + ps.length + 1 + n + 1 + ss.length + 1 + j]? = some c := fun j c h => by
  rw [own_line, show qs.length + 4 + ps.length + 1 + n + 1 + ss.length + 1 + j = qs.length + (4 + (ps.length + (1 + ((own_num y).length + (1 + (ss.length + (1 + j))))))) by omega, own_nx _ _ _ rfl, own_nx _ _ 4 rfl, own_nx _ _ _ rfl, own_nx _ _ 1 rfl, own_nx _ _ _ rfl, own_nx _ _ 1 rfl, own_nx _ _ _ rfl, own_nx _ _ 1 rfl]; exact h
/-- sg: the place that the minus takes -/
def own_sg (y : Int32) : Nat := if y < 0 then 1 else 0
theorem own_numSg (y : Int32) : (own_num y).length = own_sg y + (own_dig y.toInt.natAbs).length := by
  unfold own_num own_sg; split <;> simp <;> omega
theorem own_numM {y : Int32} (h : own_sg y = 1) : (own_num y)[0]? = some 45 := by
  unfold own_sg at h; split at h
  · rw [own_num, if_pos (by assumption)]; rfl
  · cases h
theorem own_numD {y : Int32} {j : Nat} (h : j < (own_dig y.toInt.natAbs).length) : (own_num y)[own_sg y + (own_dig y.toInt.natAbs).length - 1 - j]? = some (48 + y.toInt.natAbs / 10 ^ j % 10) := by
  have e := own_dget j _ h
  rw [own_num, show own_sg y + (own_dig y.toInt.natAbs).length - 1 - j = own_sg y + ((own_dig y.toInt.natAbs).length - 1 - j) by omega, own_nx _ _ _ (by unfold own_sg; split <;> rfl)]
  exact e
theorem own_lineD {qs ps : List Nat} {y : Int32} {ss ts : List Nat} {N d s j : Nat} (eN : N = y.toInt.natAbs) (ed : d = (own_dig N).length) (es : s = own_sg y) (h : j < d) : (own_line qs ps y ss ts)[qs.length + 4 + ps.length + 1 + s + d - (j + 1)]? = some (48 + N / 10 ^ j % 10) := by
  subst eN ed es
  have := own_lineN (qs := qs) (ps := ps) (ss := ss) (ts := ts) (own_numD h)
  rw [show qs.length + 4 + ps.length + 1 + own_sg y + (own_dig y.toInt.natAbs).length - (j + 1) = qs.length + 4 + ps.length + 1 + (own_sg y + (own_dig y.toInt.natAbs).length - 1 - j) by omega]
  exact this

theorem own_apart {Z : State} {h : Heap} {a b sa sb : Nat} {k sk : ClassId} {vs : List Value} {cs ds : List Nat} {a0 : Array Value} {n1 n2 : Nat} (w1 : (Jvm.Cond.instantiable "java/lang/String" n1).before a0 Z = true) (w2 : (Jvm.Cond.instantiable "java/lang/StringBuilder" n2).before a0 Z = true) (B : own_SN Z h a b k vs cs) (S : St Z h sa sb sk ds) (hd : ds.length < 16) : sa ≠ a ∧ sb ≠ a ∧ sa ≠ b ∧ sb ≠ b :=
  ⟨Exa.neC S.1 B.1 (by decide), fun e => Exa.neArv B.1 S.2.2.2.1 w2 e.symm, fun e => Exa.neArv S.1 B.2.2.2.2.1.1 w1 e, AV.neLen S.2.2.2 B.2.2.2.2.1 (by rw [own_blen]; have := B.2.2.2.2.2.1; omega)⟩

theorem own_ss {s : State} {args : Array Value} (hsets : ∀ w ∈ jdkStatics_1, w.before args s = true) : ∃ (cc : Int32) (fv : Value), own_SS s cc fv := by
  have h1 := Cond.before_iff.mp (hsets _ (List.mem_of_getElem? (i := 1) rfl))
  have h2 := Cond.before_iff.mp (hsets _ (List.mem_of_getElem? (i := 2) rfl))
  have h8 := Cond.before_iff.mp (hsets _ (List.mem_of_getElem? (i := 8) rfl))
  obtain ⟨cc, ec⟩ := is_v h1
  obtain ⟨fv, ef, hr⟩ := isR_v h8
  refine ⟨cc, fv, Sta.start ec (Or.inl (hsets _ (List.mem_of_getElem? (i := 0) rfl))), fun q => ?_, Sta.start ef (Or.inl (hsets _ (List.mem_of_getElem? (i := 7) rfl))), hr⟩
  have x1 := not_v h2
  have x2 := eq_i ec (Term.int_eval 0) (by rw [q])
  rw [x2] at x1
  cases x1

set_option maxRecDepth 65536 in
set_option maxHeartbeats 4000000 in
theorem c_coder (l : Launch) (Z : State) (a0 : Array Value) (hw : ∀ d ∈ tables_1, d.before a0 Z = true) (n0 : Nat) (h0 : Heap) (cc : Int32) (fv : Value) (ss : own_SS Z cc fv) (ol : Od Z n0 h0) (a : Nat) (F : Fld Z h0 a "java/lang/String" "coder" "B" (.int 0)) :
    Con l [] (⟨"java/lang/String", "coder", "()B"⟩ : MethodName) jdk_42_method_152_code 1 (some .byte) ({ frames := 0, cells := 0, slots := 0, locals := 0 } : Room) Z #[(.ref a)] h0 n0 (fun v h => v = some (.int 0) ∧ h0 = h) := by
  refine enter (Ls := #[.val (.ref a)]) pn0 (fun m => by first | (simp [entryFrame, mkF, argsToLocals, Value.category]; done) | rfl) ?_
  intro K C
  refine r_getS C (pc' := 3) d14_0 rfl (w19 hw) Via.refl (ss.1.ext ol.2) ?_
  refine r_if_eq_f C (pc' := 6) d14_3 rfl ss.2.1 ?_
  refine r_aloadN C (pc' := 7) d14_6 rfl rfl rfl ?_
  refine r_getF C (pc' := 10) d14_7 rfl (w31 hw) Via.refl F ?_
  refine r_goto C (pc' := 14) d14_10 (by decide) (by decide) ?_
  exact r_breturn C d14_14 rfl (by decide) (by decide) (Nat.zero_le _) (fun _ _ => ⟨rfl, rfl⟩)
set_option maxRecDepth 65536 in
set_option maxHeartbeats 4000000 in
theorem c_length (l : Launch) (Z : State) (a0 : Array Value) (hw : ∀ d ∈ tables_1, d.before a0 Z = true) (n0 : Nat) (h0 : Heap) (cc : Int32) (fv : Value) (ss : own_SS Z cc fv) (ol : Od Z n0 h0) (a b : Nat) (k : ClassId) (cs : List Nat) (S : St Z h0 a b k cs) :
    Con l [] (⟨"java/lang/String", "length", "()I"⟩ : MethodName) jdk_42_method_54_code 1 (some .int) ({ frames := 1, cells := 0, slots := 0, locals := 13 } : Room) Z #[(.ref a)] h0 n0 (fun v h => v = some (.int (i32 cs.length)) ∧ h0 = h) := by
  refine enter (Ls := #[.val (.ref a)]) pn1 (fun m => by first | (simp [entryFrame, mkF, argsToLocals, Value.category]; done) | rfl) ?_
  intro K C
  refine r_aloadN C (pc' := 1) d13_0 rfl rfl rfl ?_
  refine r_getF C (pc' := 4) d13_1 rfl (w33 hw) Via.refl S.2.2.1 ?_
  refine r_lengthV C (pc' := 5) (n := cs.length) d13_4 rfl S.2.2.2 (own_blen cs) ?_
  refine r_aloadN C (pc' := 6) d13_5 rfl rfl rfl ?_
  refine r_callV C (pc' := 9) (argsL := []) (c_coder l Z a0 hw n0 h0 cc fv ss ol a S.2.1) S.1 d13_6 rfl (w75 hw) (w76 hw) (nfSel (z := ({ cls := "java/lang/String", name := "coder", desc := "()B" } : Jvm.MethodName)) (w78 hw)) (w78 hw) (w77 hw) (w8 hw) (w79 hw) (by decide) pd0 (st := [.int (i32 cs.length)]) rfl rfl rfl (W := 1) (Nat.le_of_eq rfl) (by decide) (by decide) (by decide) (by decide) (cells' := 0) (slots' := 0) rfl rfl ?_
  rintro _ _ ⟨rfl, rfl⟩
  show Run _ _ _ _ _ _ _ _ 9 #[.val (.ref a)] [.int (0 : Int32), .int (i32 cs.length)]
  refine r_ishr C (pc' := 10) d13_9 rfl ?_
  rw [own_shr0]
  exact r_ireturn C d13_10 (by decide) (by decide) (Nat.zero_le _) (fun _ _ => ⟨rfl, rfl⟩)
set_option maxRecDepth 65536 in
set_option maxHeartbeats 4000000 in
theorem c_min (l : Launch) (Z : State) (a0 : Array Value) (hw : ∀ d ∈ tables_1, d.before a0 Z = true) (n0 : Nat) (h0 : Heap) (x y : Nat) (hx : x < 2147483648) (hy : y < 2147483648) :
    Con l [] (⟨"java/lang/Math", "min", "(II)I"⟩ : MethodName) jdk_29_method_69_code 2 (some .int) ({ frames := 0, cells := 0, slots := 0, locals := 0 } : Room) Z #[(.int (i32 x)), (.int (i32 y))] h0 n0 (fun v h => v = some (.int (i32 (min x y))) ∧ h0 = h) := by
  refine enter (Ls := #[.val (.int (i32 x)), .val (.int (i32 y))]) pn2 (fun m => by first | (simp [entryFrame, mkF, argsToLocals, Value.category]; done) | rfl) ?_
  intro K C
  refine r_iloadN C (pc' := 1) d33_0 rfl rfl ?_
  refine r_iloadN C (pc' := 2) d33_1 rfl rfl ?_
  refine r_icmp_gt C (pt := 9) (pc' := 5) d33_2 (by decide) (by decide) rfl ?_ ?_
  · intro q
    have q' : y < x := (i32_lt hy hx).mp q
    refine r_iloadN C (pc' := 10) d33_9 rfl rfl ?_
    exact r_ireturn C d33_10 (by decide) (by decide) (Nat.zero_le _) (fun _ _ => ⟨by rw [Nat.min_eq_right (by omega)], rfl⟩)
  · intro q
    have q' : ¬ y < x := fun z => q ((i32_lt hy hx).mpr z)
    refine r_iloadN C (pc' := 6) d33_5 rfl rfl ?_
    refine r_goto C (pc' := 10) d33_6 (by decide) (by decide) ?_
    exact r_ireturn C d33_10 (by decide) (by decide) (Nat.zero_le _) (fun _ _ => ⟨by rw [Nat.min_eq_left (by omega)], rfl⟩)
set_option maxRecDepth 65536 in
set_option maxHeartbeats 4000000 in
theorem n_asbinit (l : Launch) (Z : State) (a0 : Array Value) (hw : ∀ d ∈ tables_1, d.before a0 Z = true) (n0 : Nat) (h0 : Heap) (cc : Int32) (fv : Value) (ss : own_SS Z cc fv) (ol : Od Z n0 h0) (a : Nat) (ge : n0 ≤ a) (hn : n0 ≤ h0.size) (E : Exa Z h0 a "java/lang/StringBuilder") (Fv : Fld Z h0 a "java/lang/AbstractStringBuilder" "value" "[B" .null) (Fc : Fld Z h0 a "java/lang/AbstractStringBuilder" "coder" "B" (.int 0)) (Fn : Fld Z h0 a "java/lang/AbstractStringBuilder" "count" "I" (.int 0)) :
    Con l [] (⟨"java/lang/AbstractStringBuilder", "<init>", "(I)V"⟩ : MethodName) jdk_68_method_2_code 2 none ({ frames := 1, cells := 1, slots := 16, locals := 12 } : Room) Z #[(.ref a), (.int (16 : Int32))] h0 n0 (fun v h => v = none ∧ Keep h0 h [a] ∧ ∃ (b : Nat) (k : ClassId), own_SN Z h a b k (List.replicate 16 (.int 0)) [] ∧ b = h0.size) := by
  refine enter (Ls := #[.val (.ref a), .val (.int (16 : Int32))]) pn3 (fun m => by first | (simp [entryFrame, mkF, argsToLocals, Value.category]; done) | rfl) ?_
  intro K C
  have ha := exaLt E
  refine r_aloadN C (pc' := 1) d10_0 rfl rfl rfl ?_
  refine r_initO C (pc' := 4) (W := 0) d10_1 rfl (w54 hw) (w17 hw) (w18 hw) rfl (by decide) (Nat.le_of_eq rfl) (by decide) ?_
  refine r_getS C (pc' := 7) d10_4 rfl (w55 hw) Via.refl (ss.1.ext ol.2) ?_
  refine r_if_eq_f C (pc' := 10) d10_7 rfl ss.2.1 ?_
  refine r_aloadN C (pc' := 11) d10_10 rfl rfl rfl ?_
  refine r_iloadN C (pc' := 12) d10_11 rfl rfl ?_
  refine r_newarrayE C (pc' := 14) (ty := .byte) (ad := "[B") (m := 16) (cap := 16) d10_12 rfl rfl (w24 hw) (by decide) rfl (by decide) (by decide) (by decide) (by decide) ?_
  intro h1 b kb gb E1 B Eb
  have x1 := E1.1
  replace Fv := Fv.ext E1
  replace Fc := Fc.ext E1
  replace Fn := Fn.ext E1
  replace E := E.ext E1
  refine r_putF C (pc' := 17) d10_14 rfl (w56 hw) Via.refl Fv E (Or.inl (w57 hw)) (w43 hw) (ty := (.array .byte)) (by decide) rfl rfl ge ?_
  intro h2 W2
  replace Fv := Fv.same W2
  replace Fc := Fc.other W2 (Or.inr (sn0 (Z := Z) hw))
  replace Fn := Fn.other W2 (Or.inr (sn1 (Z := Z) hw))
  replace E := E.wr W2
  replace B := B.other W2 (nn (by omega))
  replace Eb := Eb.wr W2
  refine r_aloadN C (pc' := 18) d10_17 rfl rfl rfl ?_
  refine r_iconst C (pc' := 19) (v := 0) d10_18 rfl rfl ?_
  refine r_putF C (pc' := 22) d10_19 rfl (w58 hw) Via.refl Fc E (Or.inl (w59 hw)) (w43 hw) (ty := .byte) (by decide) rfl rfl ge ?_
  intro h3 W3
  replace Fv := Fv.other W3 (Or.inr (sn2 (Z := Z) hw))
  replace Fc := Fc.same W3
  replace Fn := Fn.other W3 (Or.inr (sn3 (Z := Z) hw))
  replace E := E.wr W3
  replace B := B.other W3 (nn (by omega))
  replace Eb := Eb.wr W3
  refine r_goto C (pc' := 38) d10_22 (by decide) (by decide) ?_
  exact r_return C d10_38 (by decide) (by decide) (Nat.zero_le _) (fun _ _ => ⟨rfl, (((Keep.refl h0 [a]).ext E1).wr W2 (Or.inl (by simp))).wr W3 (Or.inl (by simp)), b, kb, ⟨E, Fv, Fc, Fn, B, Or.inl rfl, rfl, by decide, by omega, Eb⟩, gb⟩)
set_option maxRecDepth 65536 in
set_option maxHeartbeats 4000000 in
theorem n_sbinit (l : Launch) (Z : State) (a0 : Array Value) (hw : ∀ d ∈ tables_1, d.before a0 Z = true) (n0 : Nat) (h0 : Heap) (cc : Int32) (fv : Value) (ss : own_SS Z cc fv) (ol : Od Z n0 h0) (a : Nat) (ge : n0 ≤ a) (hn : n0 ≤ h0.size) (E : Exa Z h0 a "java/lang/StringBuilder") (Fv : Fld Z h0 a "java/lang/AbstractStringBuilder" "value" "[B" .null) (Fc : Fld Z h0 a "java/lang/AbstractStringBuilder" "coder" "B" (.int 0)) (Fn : Fld Z h0 a "java/lang/AbstractStringBuilder" "count" "I" (.int 0)) :
    Con l [] (⟨"java/lang/StringBuilder", "<init>", "()V"⟩ : MethodName) jdk_67_method_1_code 1 none ({ frames := 2, cells := 1, slots := 16, locals := 25 } : Room) Z #[(.ref a)] h0 n0 (fun v h => v = none ∧ Keep h0 h [a] ∧ ∃ (b : Nat) (k : ClassId), own_SN Z h a b k (List.replicate 16 (.int 0)) [] ∧ b = h0.size) := by
  refine enter (Ls := #[.val (.ref a)]) pn4 (fun m => by first | (simp [entryFrame, mkF, argsToLocals, Value.category]; done) | rfl) ?_
  intro K C
  refine r_aloadN C (pc' := 1) d9_0 rfl rfl rfl ?_
  refine r_bipush C (pc' := 3) (v := (16)) d9_1 rfl rfl ?_
  refine r_callI C (pc' := 6) (argsL := [.int (16 : Int32)]) (n_asbinit l Z a0 hw n0 h0 cc fv ss ol a ge hn E Fv Fc Fn) d9_3 rfl (w48 hw) (w49 hw) (w52 hw) (w53 hw) rfl (by decide) pd1 (st := []) rfl rfl rfl (W := 0) (Nat.le_of_eq rfl) (by decide) (by decide) (by decide) (by decide) (cells' := 1) (slots' := 16) rfl rfl ?_
  rintro _ h1 ⟨rfl, K1, r⟩
  show Run _ _ _ _ _ h1 _ _ 6 #[.val (.ref a)] []
  exact r_return C d9_6 (by decide) (by decide) (Nat.zero_le _) (fun _ _ => ⟨rfl, K1, r⟩)
set_option maxRecDepth 65536 in
set_option maxHeartbeats 4000000 in
theorem n_max (l : Launch) (Z : State) (a0 : Array Value) (hw : ∀ d ∈ tables_1, d.before a0 Z = true) (n0 : Nat) (h0 : Heap) (x y : Nat) (hx : x < 2147483648) (hy : y < 2147483648) :
    Con l [] (⟨"java/lang/Math", "max", "(II)I"⟩ : MethodName) jdk_29_method_65_code 2 (some .int) ({ frames := 0, cells := 0, slots := 0, locals := 0 } : Room) Z #[(.int (i32 x)), (.int (i32 y))] h0 n0 (fun v h => v = some (.int (i32 (max x y))) ∧ h0 = h) := by
  refine enter (Ls := #[.val (.int (i32 x)), .val (.int (i32 y))]) pn5 (fun m => by first | (simp [entryFrame, mkF, argsToLocals, Value.category]; done) | rfl) ?_
  intro K C
  refine r_iloadN C (pc' := 1) d45_0 rfl rfl ?_
  refine r_iloadN C (pc' := 2) d45_1 rfl rfl ?_
  refine r_icmp_lt C (pt := 9) (pc' := 5) d45_2 (by decide) (by decide) rfl ?_ ?_
  · intro q
    have q' : x < y := (i32_lt hx hy).mp q
    refine r_iloadN C (pc' := 10) d45_9 rfl rfl ?_
    exact r_ireturn C d45_10 (by decide) (by decide) (Nat.zero_le _) (fun _ _ => ⟨by rw [Nat.max_eq_right (by omega)], rfl⟩)
  · intro q
    have q' : ¬ x < y := fun z => q ((i32_lt hx hy).mpr z)
    refine r_iloadN C (pc' := 6) d45_5 rfl rfl ?_
    refine r_goto C (pc' := 10) d45_6 (by decide) (by decide) ?_
    exact r_ireturn C d45_10 (by decide) (by decide) (Nat.zero_le _) (fun _ _ => ⟨by rw [Nat.max_eq_left (by omega)], rfl⟩)
set_option maxRecDepth 65536 in
set_option maxHeartbeats 4000000 in
theorem n_newLength (l : Launch) (Z : State) (a0 : Array Value) (hw : ∀ d ∈ tables_1, d.before a0 Z = true) (n0 : Nat) (h0 : Heap) (o x y : Nat) (ho : 0 < o) (h1 : o < 1000000) (h2 : x < 1000000) (h3 : y < 1000000) :
    Con l [] (⟨"jdk/internal/util/ArraysSupport", "newLength", "(III)I"⟩ : MethodName) jdk_48_method_27_code 4 (some .int) ({ frames := 1, cells := 0, slots := 0, locals := 14 } : Room) Z #[(.int (i32 o)), (.int (i32 x)), (.int (i32 y))] h0 n0 (fun v h => v = some (.int (i32 (o + max x y))) ∧ h0 = h) := by
  refine enter (Ls := #[.val (.int (i32 o)), .val (.int (i32 x)), .val (.int (i32 y)), .unset]) pn6 (fun m => by first | (simp [entryFrame, mkF, argsToLocals, Value.category]; done) | rfl) ?_
  intro K C
  refine r_iloadN C (pc' := 1) d44_0 rfl rfl ?_
  refine r_iloadN C (pc' := 2) d44_1 rfl rfl ?_
  refine r_iloadN C (pc' := 3) d44_2 rfl rfl ?_
  refine r_callS C (pc' := 6) (argsL := [.int (i32 x), .int (i32 y)]) (n_max l Z a0 hw n0 h0 x y (by omega) (by omega)) d44_3 rfl (w226 hw) (w227 hw) (w169 hw) (w228 hw) (by decide) pd2 (st := [.int (i32 o)]) rfl rfl rfl (W := 1) (Nat.le_of_eq rfl) (by decide) (by decide) (by decide) (by decide) (cells' := 0) (slots' := 0) rfl rfl ?_
  rintro _ _ ⟨rfl, rfl⟩
  show Run _ _ _ _ _ _ _ _ 6 #[.val (.int (i32 o)), .val (.int (i32 x)), .val (.int (i32 y)), .unset] [.int (i32 (max x y)), .int (i32 o)]
  refine r_iadd C (pc' := 7) d44_6 rfl ?_
  rw [i32_add]
  refine r_istoreN C (pc' := 8) (Ls' := #[.val (.int (i32 o)), .val (.int (i32 x)), .val (.int (i32 y)), .val (.int (i32 (o + max x y)))]) d44_7 rfl rfl ?_
  refine r_iconst C (pc' := 9) (v := 0) d44_8 rfl rfl ?_
  refine r_iloadN C (pc' := 10) d44_9 rfl rfl ?_
  refine r_icmp_ge_f C (pc' := 13) d44_10 rfl ((i32_lt (a := 0) (by decide) (by omega)).mpr (by omega)) ?_
  refine r_iloadN C (pc' := 14) d44_13 rfl rfl ?_
  refine r_ldcI C (pc' := 16) d44_14 rfl (w229 hw) ?_
  refine r_icmp_gt_f C (pc' := 19) d44_16 rfl (fun q => absurd ((i32_lt (a := 2147483639) (by decide) (by omega)).mp q) (by omega)) ?_
  refine r_iloadN C (pc' := 20) d44_19 rfl rfl ?_
  exact r_ireturn C d44_20 (by decide) (by decide) (Nat.zero_le _) (fun _ _ => ⟨rfl, rfl⟩)
set_option maxRecDepth 65536 in
set_option maxHeartbeats 4000000 in
theorem n_newCap (l : Launch) (Z : State) (a0 : Array Value) (hw : ∀ d ∈ tables_1, d.before a0 Z = true) (n0 : Nat) (h0 : Heap) (a b : Nat) (k : ClassId) (vs : List Value) (cs : List Nat) (B : own_SN Z h0 a b k vs cs) (m : Nat) (hm : vs.length < m) (hm2 : m ≤ 2 * vs.length + 2) :
    Con l [] (⟨"java/lang/AbstractStringBuilder", "newCapacity", "(I)I"⟩ : MethodName) jdk_68_method_10_code 6 (some .int) ({ frames := 2, cells := 0, slots := 0, locals := 29 } : Room) Z #[(.ref a), (.int (i32 m))] h0 n0 (fun v h => v = some (.int (i32 (2 * vs.length + 2))) ∧ h0 = h) := by
  refine enter (Ls := #[.val (.ref a), .val (.int (i32 m)), .unset, .unset, .unset, .unset]) pn7 (fun m => by first | (simp [entryFrame, mkF, argsToLocals, Value.category]; done) | rfl) ?_
  intro K C
  have hv := B.2.2.2.2.2.1
  refine r_aloadN C (pc' := 1) d43_0 rfl rfl rfl ?_
  refine r_getF C (pc' := 4) d43_1 rfl (w56 hw) Via.refl B.2.1 ?_
  refine r_lengthV C (pc' := 5) (n := vs.length) d43_4 rfl B.2.2.2.2.1 rfl ?_
  refine r_istoreN C (pc' := 6) (Ls' := #[.val (.ref a), .val (.int (i32 m)), .val (.int (i32 vs.length)), .unset, .unset, .unset]) d43_5 rfl rfl ?_
  refine r_iloadN C (pc' := 7) d43_6 rfl rfl ?_
  refine r_aloadN C (pc' := 8) d43_7 rfl rfl rfl ?_
  refine r_getF C (pc' := 11) d43_8 rfl (w58 hw) Via.refl B.2.2.1 ?_
  refine r_ishl C (pc' := 12) d43_11 rfl ?_
  rw [own_shl0]
  refine r_istoreN C (pc' := 13) (Ls' := #[.val (.ref a), .val (.int (i32 m)), .val (.int (i32 vs.length)), .val (.int (i32 m)), .unset, .unset]) d43_12 rfl rfl ?_
  refine r_iloadN C (pc' := 14) d43_13 rfl rfl ?_
  refine r_iloadN C (pc' := 15) d43_14 rfl rfl ?_
  refine r_isub C (pc' := 16) d43_15 rfl ?_
  rw [show i32 m - i32 vs.length = i32 (m - vs.length) from i32_sub (by omega)]
  refine r_istore C (pc' := 18) (Ls' := #[.val (.ref a), .val (.int (i32 m)), .val (.int (i32 vs.length)), .val (.int (i32 m)), .val (.int (i32 (m - vs.length))), .unset]) d43_16 rfl rfl ?_
  refine r_iloadN C (pc' := 19) d43_18 rfl rfl ?_
  refine r_iload C (pc' := 21) d43_19 rfl rfl ?_
  refine r_iloadN C (pc' := 22) d43_21 rfl rfl ?_
  refine r_iconst C (pc' := 23) (v := 2) d43_22 rfl rfl ?_
  refine r_aloadN C (pc' := 24) d43_23 rfl rfl rfl ?_
  refine r_getF C (pc' := 27) d43_24 rfl (w58 hw) Via.refl B.2.2.1 ?_
  refine r_ishl C (pc' := 28) d43_27 rfl ?_
  refine r_iadd C (pc' := 29) d43_28 rfl ?_
  rw [own_shl0, show i32 vs.length + (2 : Int32) = i32 (vs.length + 2) from i32_add _ 2]
  refine r_callS C (pc' := 32) (argsL := [.int (i32 vs.length), .int (i32 (m - vs.length)), .int (i32 (vs.length + 2))]) (n_newLength l Z a0 hw n0 h0 vs.length (m - vs.length) (vs.length + 2) (by omega) (by omega) (by omega) (by omega)) d43_29 rfl (w222 hw) (w223 hw) (w224 hw) (w225 hw) (by decide) pd3 (st := []) rfl rfl rfl (W := 0) (Nat.le_of_eq rfl) (by decide) (by decide) (by decide) (by decide) (cells' := 0) (slots' := 0) rfl rfl ?_
  rintro _ _ ⟨rfl, rfl⟩
  show Run _ _ _ _ _ _ _ _ 32 #[.val (.ref a), .val (.int (i32 m)), .val (.int (i32 vs.length)), .val (.int (i32 m)), .val (.int (i32 (m - vs.length))), .unset] [.int (i32 (vs.length + max (m - vs.length) (vs.length + 2)))]
  rw [show vs.length + max (m - vs.length) (vs.length + 2) = 2 * vs.length + 2 by omega]
  refine r_istore C (pc' := 34) (Ls' := #[.val (.ref a), .val (.int (i32 m)), .val (.int (i32 vs.length)), .val (.int (i32 m)), .val (.int (i32 (m - vs.length))), .val (.int (i32 (2 * vs.length + 2)))]) d43_32 rfl rfl ?_
  refine r_iload C (pc' := 36) d43_34 rfl rfl ?_
  refine r_ldcI C (pc' := 38) d43_36 rfl (w230 hw) ?_
  refine r_icmp_ne_t C (pc' := 51) d43_38 (by decide) (by decide) (fun q => absurd ((i32_eq (b := 2147483647) (by omega) (by decide)).mp q) (by omega)) ?_
  refine r_iload C (pc' := 53) d43_51 rfl rfl ?_
  refine r_aloadN C (pc' := 54) d43_53 rfl rfl rfl ?_
  refine r_getF C (pc' := 57) d43_54 rfl (w58 hw) Via.refl B.2.2.1 ?_
  refine r_ishr C (pc' := 58) d43_57 rfl ?_
  rw [own_shr0]
  exact r_ireturn C d43_58 (by decide) (by decide) (Nat.zero_le _) (fun _ _ => ⟨rfl, rfl⟩)
set_option maxRecDepth 65536 in
set_option maxHeartbeats 4000000 in
theorem n_copyOf (l : Launch) (Z : State) (a0 : Array Value) (hw : ∀ d ∈ tables_1, d.before a0 Z = true) (n0 : Nat) (h0 : Heap) (hn0 : n0 ≤ h0.size) (b : Nat) (k : ClassId) (vs : List Value) (A : AV Z h0 b k .byte vs (.int 0)) (hv : 2 * vs.length + 2 ≤ 34) :
    Con l [] (⟨"java/util/Arrays", "copyOf", "([BI)[B"⟩ : MethodName) jdk_65_method_121_code 3 (some (.array .byte)) ({ frames := 1, cells := 1, slots := 34, locals := 40 } : Room) Z #[(.ref b), (.int (i32 (2 * vs.length + 2)))] h0 n0 (fun v h => ∃ (b2 : Nat) (k2 : ClassId), v = some (.ref b2) ∧ b2 = h0.size ∧ Keep h0 h [] ∧ AV Z h b2 k2 .byte (vs ++ List.replicate (vs.length + 2) (.int 0)) (.int 0) ∧ Exa Z h b2 "[B") := by
  refine enter (Ls := #[.val (.ref b), .val (.int (i32 (2 * vs.length + 2))), .unset]) pn8 (fun m => by first | (simp [entryFrame, mkF, argsToLocals, Value.category]; done) | rfl) ?_
  intro K C
  have lb := A.lt
  refine r_iloadN C (pc' := 1) d46_0 rfl rfl ?_
  refine r_aloadN C (pc' := 2) d46_1 rfl rfl rfl ?_
  refine r_lengthV C (pc' := 3) (n := vs.length) d46_2 rfl A rfl ?_
  refine r_icmp_ne_t C (pc' := 14) d46_3 (by decide) (by decide) (fun q => absurd ((i32_eq (by omega) (by omega)).mp q) (by omega)) ?_
  refine r_iloadN C (pc' := 15) d46_14 rfl rfl ?_
  refine r_newarrayE C (pc' := 17) (ty := .byte) (ad := "[B") (m := (2 * vs.length + 2)) (cap := 34) d46_15 rfl rfl (w24 hw) (by decide) rfl (by omega) (by decide) (by decide) (by decide) ?_
  intro h1 b2 k2 gb E1 B1 Eb
  have x1 := E1.1
  refine r_astoreN C (pc' := 18) (Ls' := #[.val (.ref b), .val (.int (i32 (2 * vs.length + 2))), .val (.ref b2)]) d46_17 rfl rfl rfl ?_
  refine r_aloadN C (pc' := 19) d46_18 rfl rfl rfl ?_
  refine r_iconst C (pc' := 20) (v := 0) d46_19 rfl rfl ?_
  refine r_aloadN C (pc' := 21) d46_20 rfl rfl rfl ?_
  refine r_iconst C (pc' := 22) (v := 0) d46_21 rfl rfl ?_
  refine r_aloadN C (pc' := 23) d46_22 rfl rfl rfl ?_
  refine r_lengthV C (pc' := 24) (n := vs.length) d46_23 rfl (A.ext E1) rfl ?_
  refine r_iloadN C (pc' := 25) d46_24 rfl rfl ?_
  refine r_callS C (pc' := 28) (argsL := [.int (i32 vs.length), .int (i32 (2 * vs.length + 2))]) (c_min l Z a0 hw n0 h1 vs.length (2 * vs.length + 2) (by omega) (by omega)) d46_25 rfl (w167 hw) (w168 hw) (w169 hw) (w170 hw) (by decide) pd2 (st := [.int (0 : Int32), .ref b2, .int (0 : Int32), .ref b]) rfl rfl rfl (W := 4) (Nat.le_of_eq rfl) (by decide) (by decide) (by decide) (by decide) (cells' := 1) (slots' := 34) rfl rfl ?_
  rintro _ _ ⟨rfl, rfl⟩
  show Run _ _ _ _ _ _ _ _ 28 #[.val (.ref b), .val (.int (i32 (2 * vs.length + 2))), .val (.ref b2)] [.int (i32 (min vs.length (2 * vs.length + 2))), .int (0 : Int32), .ref b2, .int (0 : Int32), .ref b]
  rw [Nat.min_eq_left (by omega)]
  refine r_copy C (pc' := 31) (sp := 0) (dp := 0) (n := vs.length) (W := 0) d46_28 rfl (w171 hw) (w106 hw) (w104 hw) (w105 hw) (A.ext E1) B1 rfl rfl rfl rfl (by omega) (by rw [List.length_replicate]; omega) (by omega) rfl (by decide) (Nat.le_of_eq rfl) (by decide) ?_
  intro h2 K2 B2
  refine r_aloadN C (pc' := 32) d46_31 rfl rfl rfl ?_
  have B3 := B2.cast (show _ = vs ++ List.replicate (vs.length + 2) (.int 0) by rw [List.take_zero, List.drop_zero, List.nil_append, List.take_length, Nat.zero_add, show 2 * vs.length + 2 = vs.length + (vs.length + 2) by omega, List.drop_replicate, Nat.add_sub_cancel_left]; rfl)
  exact r_areturn C d46_32 rfl rfl (by decide) (by decide) (Nat.zero_le _) (fun _ _ => ⟨b2, k2, rfl, gb, ((Keep.refl h0 []).ext E1).trans K2 (allS (Or.inr (by omega)) all0), B3, Eb.keep K2⟩)
set_option maxRecDepth 65536 in
set_option maxHeartbeats 4000000 in
theorem n_ensure (l : Launch) (Z : State) (a0 : Array Value) (hw : ∀ d ∈ tables_1, d.before a0 Z = true) (n0 : Nat) (h0 : Heap) (a b : Nat) (k : ClassId) (vs : List Value) (cs : List Nat) (B : own_SN Z h0 a b k vs cs) (hn0 : n0 ≤ h0.size) (ge : n0 ≤ a) (m : Nat) (hm : m ≤ 34) (hg : m ≤ 2 * vs.length + 2) :
    Con l [] (⟨"java/lang/AbstractStringBuilder", "ensureCapacityInternal", "(I)V"⟩ : MethodName) jdk_68_method_9_code 3 none ({ frames := 3, cells := 1, slots := 34, locals := 55 } : Room) Z #[(.ref a), (.int (i32 m))] h0 n0 (fun v h => v = none ∧ Keep h0 h [a] ∧ ∃ (b' : Nat) (k' : ClassId) (vs' : List Value), own_SN Z h a b' k' vs' cs ∧ m ≤ vs'.length ∧ (b' = b ∨ h0.size ≤ b')) := by
  refine enter (Ls := #[.val (.ref a), .val (.int (i32 m)), .unset]) pn9 (fun m => by first | (simp [entryFrame, mkF, argsToLocals, Value.category]; done) | rfl) ?_
  intro K C
  have hv := B.2.2.2.2.2.1
  have la := exaLt B.1
  refine r_aloadN C (pc' := 1) d15_0 rfl rfl rfl ?_
  refine r_getF C (pc' := 4) d15_1 rfl (w56 hw) Via.refl B.2.1 ?_
  refine r_lengthV C (pc' := 5) (n := vs.length) d15_4 rfl B.2.2.2.2.1 rfl ?_
  refine r_aloadN C (pc' := 6) d15_5 rfl rfl rfl ?_
  refine r_getF C (pc' := 9) d15_6 rfl (w58 hw) Via.refl B.2.2.1 ?_
  refine r_ishr C (pc' := 10) d15_9 rfl ?_
  rw [own_shr0]
  refine r_istoreN C (pc' := 11) (Ls' := #[.val (.ref a), .val (.int (i32 m)), .val (.int (i32 vs.length))]) d15_10 rfl rfl ?_
  refine r_iloadN C (pc' := 12) d15_11 rfl rfl ?_
  refine r_iloadN C (pc' := 13) d15_12 rfl rfl ?_
  refine r_isub C (pc' := 14) d15_13 rfl ?_
  refine r_if_le C (pt := 38) (pc' := 17) d15_14 (by decide) (by decide) rfl ?_ ?_
  · intro q
    have q' : ¬ vs.length < m := fun z => q ((own_suble (by omega) (by omega)).mpr z)
    exact r_return C d15_38 (by decide) (by decide) (Nat.zero_le _) (fun _ _ => ⟨rfl, Keep.refl _ _, b, k, vs, B, by omega, Or.inl rfl⟩)
  · intro q
    have q' : vs.length < m := (own_suble (by omega) (by omega)).mp q
    refine r_aloadN C (pc' := 18) d15_17 rfl rfl rfl ?_
    refine r_aloadN C (pc' := 19) d15_18 rfl rfl rfl ?_
    refine r_getF C (pc' := 22) d15_19 rfl (w56 hw) Via.refl B.2.1 ?_
    refine r_aloadN C (pc' := 23) d15_22 rfl rfl rfl ?_
    refine r_iloadN C (pc' := 24) d15_23 rfl rfl ?_
    refine r_callPX C (pc' := 27) (argsL := [.int (i32 m)]) (n_newCap l Z a0 hw n0 h0 a b k vs cs B m q' hg) B.1 d15_24 rfl (w217 hw) (w218 hw) (w220 hw) (w219 hw) (w52 hw) (w221 hw) (by decide) pd4 (st := [.ref b, .ref a]) rfl rfl rfl (W := 2) (Nat.le_of_eq rfl) (by decide) (by decide) (by decide) (by decide) (cells' := 0) (slots' := 0) rfl rfl ?_
    rintro _ _ ⟨rfl, rfl⟩
    show Run _ _ _ _ _ _ _ _ 27 #[.val (.ref a), .val (.int (i32 m)), .val (.int (i32 vs.length))] [.int (i32 (2 * vs.length + 2)), .ref b, .ref a]
    refine r_aloadN C (pc' := 28) d15_27 rfl rfl rfl ?_
    refine r_getF C (pc' := 31) d15_28 rfl (w58 hw) Via.refl B.2.2.1 ?_
    refine r_ishl C (pc' := 32) d15_31 rfl ?_
    rw [own_shl0]
    refine r_callS C (pc' := 35) (argsL := [.ref b, .int (i32 (2 * vs.length + 2))]) (n_copyOf l Z a0 hw n0 _ hn0 b k vs B.2.2.2.2.1 (by omega)) d15_32 rfl (w231 hw) (w232 hw) (w159 hw) (w233 hw) (by decide) pd5 (st := [.ref a]) rfl rfl rfl (W := 1) (Nat.le_of_eq rfl) (by decide) (by decide) (by decide) (by decide) (cells' := 1) (slots' := 34) rfl rfl ?_
    rintro _ h1 ⟨b2, k2, rfl, gb, K1, A1, Eb⟩
    show Run _ _ _ _ _ h1 _ _ 35 #[.val (.ref a), .val (.int (i32 m)), .val (.int (i32 vs.length))] [.ref b2, .ref a]
    obtain ⟨E, Fv, Fc, Fn, A, e1, e2, e3, nab, Ex⟩ := B
    replace E := E.keep K1
    replace Fv := Fv.keep K1 nin0
    replace Fc := Fc.keep K1 nin0
    replace Fn := Fn.keep K1 nin0
    refine r_putF C (pc' := 38) d15_35 rfl (w56 hw) Via.refl Fv E (Or.inl (w57 hw)) (w43 hw) (ty := (.array .byte)) (by decide) rfl rfl ge ?_
    intro h2 W2
    replace Fv := Fv.same W2
    replace Fc := Fc.other W2 (Or.inr (sn0 (Z := Z) hw))
    replace Fn := Fn.other W2 (Or.inr (sn1 (Z := Z) hw))
    replace E := E.wr W2
    replace A1 := A1.other W2 (nn (by omega))
    replace Eb := Eb.wr W2
    have hl2 : (vs ++ List.replicate (vs.length + 2) (Value.int 0)).length = 2 * vs.length + 2 := by rw [List.length_append, List.length_replicate]; omega
    exact r_return C d15_38 (by decide) (by decide) (Nat.zero_le _) (fun _ _ => ⟨rfl, ((Keep.refl h0 [a]).trans K1 all0).wr W2 (Or.inl (by simp)), b2, k2, _, ⟨E, Fv, Fc, Fn, A1, by rw [hl2]; omega, by rw [List.take_append_of_le_length e3]; exact e2, by rw [hl2]; omega, by omega, Eb⟩, by rw [hl2]; omega, Or.inr (by omega)⟩)
set_option maxRecDepth 65536 in
set_option maxHeartbeats 4000000 in
theorem n_inflate (l : Launch) (Z : State) (a0 : Array Value) (hw : ∀ d ∈ tables_1, d.before a0 Z = true) (n0 : Nat) (h0 : Heap) (cc : Int32) (fv : Value) (ss : own_SS Z cc fv) (ol : Od Z n0 h0) (a b : Nat) (k : ClassId) (vs : List Value) (cs : List Nat) (B : own_SN Z h0 a b k vs cs) (sa sb : Nat) (sk : ClassId) (ds : List Nat) (S : St Z h0 sa sb sk ds) :
    Con l [] (⟨"java/lang/AbstractStringBuilder", "inflateIfNeededFor", "(Ljava/lang/String;)V"⟩ : MethodName) jdk_68_method_71_code 2 none ({ frames := 1, cells := 0, slots := 0, locals := 13 } : Room) Z #[(.ref a), (.ref sa)] h0 n0 (fun v h => v = none ∧ h0 = h) := by
  refine enter (Ls := #[.val (.ref a), .val (.ref sa)]) pn10 (fun m => by first | (simp [entryFrame, mkF, argsToLocals, Value.category]; done) | rfl) ?_
  intro K C
  refine r_getS C (pc' := 3) d17_0 rfl (w55 hw) Via.refl (ss.1.ext ol.2) ?_
  refine r_if_eq_f C (pc' := 6) d17_3 rfl ss.2.1 ?_
  refine r_aloadN C (pc' := 7) d17_6 rfl rfl rfl ?_
  refine r_getF C (pc' := 10) d17_7 rfl (w58 hw) Via.refl B.2.2.1 ?_
  refine r_aloadN C (pc' := 11) d17_10 rfl rfl rfl ?_
  refine r_callV C (pc' := 14) (argsL := []) (c_coder l Z a0 hw n0 h0 cc fv ss ol sa S.2.1) S.1 d17_11 rfl (w97 hw) (w76 hw) (nfSel (z := ({ cls := "java/lang/String", name := "coder", desc := "()B" } : Jvm.MethodName)) (w78 hw)) (w78 hw) (w77 hw) (w8 hw) (w79 hw) (by decide) pd0 (st := [.int (0 : Int32)]) rfl rfl rfl (W := 1) (Nat.le_of_eq rfl) (by decide) (by decide) (by decide) (by decide) (cells' := 0) (slots' := 0) rfl rfl ?_
  rintro _ _ ⟨rfl, rfl⟩
  show Run _ _ _ _ _ _ _ _ 14 #[.val (.ref a), .val (.ref sa)] [.int (0 : Int32), .int (0 : Int32)]
  refine r_icmp_eq_t C (pc' := 21) d17_14 (by decide) (by decide) (by decide) ?_
  exact r_return C d17_21 (by decide) (by decide) (Nat.zero_le _) (fun _ _ => ⟨rfl, rfl⟩)
set_option maxRecDepth 65536 in
set_option maxHeartbeats 4000000 in
theorem c_getBytes (l : Launch) (Z : State) (a0 : Array Value) (hw : ∀ d ∈ tables_1, d.before a0 Z = true) (n0 : Nat) (h0 : Heap) (cc : Int32) (fv : Value) (ss : own_SS Z cc fv) (ol : Od Z n0 h0) (sa sb : Nat) (sk : ClassId) (ds : List Nat) (S : St Z h0 sa sb sk ds) (b : Nat) (k : ClassId) (vs : List Value) (A : AV Z h0 b k .byte vs (.int 0)) (n : Nat) (hn : n + ds.length ≤ vs.length) (ge : n0 ≤ b) :
    Con l [] (⟨"java/lang/String", "getBytes", "([BIB)V"⟩ : MethodName) jdk_42_method_147_code 4 none ({ frames := 1, cells := 0, slots := 0, locals := 40 } : Room) Z #[(.ref sa), (.ref b), (.int (i32 n)), (.int (0 : Int32))] h0 n0 (fun v h => v = none ∧ Keep h0 h [b] ∧ AV Z h b k .byte (vs.take n ++ (ds.map by8).map Value.int ++ vs.drop (n + ds.length)) (.int 0)) := by
  refine enter (Ls := #[.val (.ref sa), .val (.ref b), .val (.int (i32 n)), .val (.int (0 : Int32))]) pn11 (fun m => by first | (simp [entryFrame, mkF, argsToLocals, Value.category]; done) | rfl) ?_
  intro K C
  refine r_aloadN C (pc' := 1) d18_0 rfl rfl rfl ?_
  refine r_callV C (pc' := 4) (argsL := []) (c_coder l Z a0 hw n0 h0 cc fv ss ol sa S.2.1) S.1 d18_1 rfl (w75 hw) (w76 hw) (nfSel (z := ({ cls := "java/lang/String", name := "coder", desc := "()B" } : Jvm.MethodName)) (w78 hw)) (w78 hw) (w77 hw) (w8 hw) (w79 hw) (by decide) pd0 (st := []) rfl rfl rfl (W := 0) (Nat.le_of_eq rfl) (by decide) (by decide) (by decide) (by decide) (cells' := 0) (slots' := 0) rfl rfl ?_
  rintro _ _ ⟨rfl, rfl⟩
  show Run _ _ _ _ _ _ _ _ 4 #[.val (.ref sa), .val (.ref b), .val (.int (i32 n)), .val (.int (0 : Int32))] [.int (0 : Int32)]
  refine r_iloadN C (pc' := 5) d18_4 rfl rfl ?_
  refine r_icmp_ne_f C (pc' := 8) d18_5 rfl (by decide) ?_
  refine r_aloadN C (pc' := 9) d18_8 rfl rfl rfl ?_
  refine r_getF C (pc' := 12) d18_9 rfl (w33 hw) Via.refl S.2.2.1 ?_
  refine r_iconst C (pc' := 13) (v := 0) d18_12 rfl rfl ?_
  refine r_aloadN C (pc' := 14) d18_13 rfl rfl rfl ?_
  refine r_iloadN C (pc' := 15) d18_14 rfl rfl ?_
  refine r_iloadN C (pc' := 16) d18_15 rfl rfl ?_
  refine r_ishl C (pc' := 17) d18_16 rfl ?_
  refine r_aloadN C (pc' := 18) d18_17 rfl rfl rfl ?_
  refine r_getF C (pc' := 21) d18_18 rfl (w33 hw) Via.refl S.2.2.1 ?_
  refine r_lengthV C (pc' := 22) (n := ds.length) d18_21 rfl S.2.2.2 (own_blen ds) ?_
  refine r_copy C (pc' := 25) (sp := 0) (dp := n) (n := ds.length) (W := 0) d18_22 rfl (w103 hw) (w106 hw) (w104 hw) (w105 hw) S.2.2.2 A rfl rfl (own_shl0 (i32 n)) rfl (by rw [own_blen]; omega) (by omega) ge rfl (by decide) (Nat.le_of_eq rfl) (by decide) ?_
  intro h1 K1 A1
  refine r_goto C (pc' := 43) d18_25 (by decide) (by decide) ?_
  rw [List.drop_zero, List.take_of_length_le (l := (ds.map by8).map Value.int) (by rw [own_blen]; exact Nat.le_refl _)] at A1
  exact r_return C d18_43 (by decide) (by decide) (Nat.zero_le _) (fun _ _ => ⟨rfl, K1, A1⟩)
set_option maxRecDepth 65536 in
set_option maxHeartbeats 4000000 in
theorem n_putAt (l : Launch) (Z : State) (a0 : Array Value) (hw : ∀ d ∈ tables_1, d.before a0 Z = true) (n0 : Nat) (h0 : Heap) (cc : Int32) (fv : Value) (ss : own_SS Z cc fv) (ol : Od Z n0 h0) (a b : Nat) (k : ClassId) (vs : List Value) (cs : List Nat) (B : own_SN Z h0 a b k vs cs) (sa sb : Nat) (sk : ClassId) (ds : List Nat) (S : St Z h0 sa sb sk ds) (n : Nat) (hn : n + ds.length ≤ vs.length) (ge : n0 ≤ b) :
    Con l [] (⟨"java/lang/AbstractStringBuilder", "putStringAt", "(ILjava/lang/String;)V"⟩ : MethodName) jdk_68_method_73_code 3 none ({ frames := 2, cells := 0, slots := 0, locals := 55 } : Room) Z #[(.ref a), (.int (i32 n)), (.ref sa)] h0 n0 (fun v h => v = none ∧ Keep h0 h [b] ∧ AV Z h b k .byte (vs.take n ++ (ds.map by8).map Value.int ++ vs.drop (n + ds.length)) (.int 0)) := by
  refine enter (Ls := #[.val (.ref a), .val (.int (i32 n)), .val (.ref sa)]) pn12 (fun m => by first | (simp [entryFrame, mkF, argsToLocals, Value.category]; done) | rfl) ?_
  intro K C
  refine r_aloadN C (pc' := 1) d16_0 rfl rfl rfl ?_
  refine r_aloadN C (pc' := 2) d16_1 rfl rfl rfl ?_
  refine r_callPX C (pc' := 5) (argsL := [.ref sa]) (n_inflate l Z a0 hw n0 h0 cc fv ss ol a b k vs cs B sa sb sk ds S) B.1 d16_2 rfl (w92 hw) (w93 hw) (w95 hw) (w94 hw) (w52 hw) (w96 hw) (by decide) pd6 (st := []) rfl rfl rfl (W := 0) (Nat.le_of_eq rfl) (by decide) (by decide) (by decide) (by decide) (cells' := 0) (slots' := 0) rfl rfl ?_
  rintro _ _ ⟨rfl, rfl⟩
  show Run _ _ _ _ _ _ _ _ 5 #[.val (.ref a), .val (.int (i32 n)), .val (.ref sa)] []
  refine r_aloadN C (pc' := 6) d16_5 rfl rfl rfl ?_
  refine r_aloadN C (pc' := 7) d16_6 rfl rfl rfl ?_
  refine r_getF C (pc' := 10) d16_7 rfl (w56 hw) Via.refl B.2.1 ?_
  refine r_iloadN C (pc' := 11) d16_10 rfl rfl ?_
  refine r_aloadN C (pc' := 12) d16_11 rfl rfl rfl ?_
  refine r_getF C (pc' := 15) d16_12 rfl (w58 hw) Via.refl B.2.2.1 ?_
  refine r_callV C (pc' := 18) (argsL := [.ref b, .int (i32 n), .int (0 : Int32)]) (c_getBytes l Z a0 hw n0 _ cc fv ss ol sa sb sk ds S b k vs B.2.2.2.2.1 n hn ge) S.1 d16_15 rfl (w98 hw) (w99 hw) (nfSel (z := ({ cls := "java/lang/String", name := "getBytes", desc := "([BIB)V" } : Jvm.MethodName)) (w101 hw)) (w101 hw) (w100 hw) (w8 hw) (w102 hw) (by decide) pd7 (st := []) rfl rfl rfl (W := 0) (Nat.le_of_eq rfl) (by decide) (by decide) (by decide) (by decide) (cells' := 0) (slots' := 0) rfl rfl ?_
  rintro _ h1 ⟨rfl, K1, A1⟩
  show Run _ _ _ _ _ h1 _ _ 18 #[.val (.ref a), .val (.int (i32 n)), .val (.ref sa)] []
  exact r_return C d16_18 (by decide) (by decide) (Nat.zero_le _) (fun _ _ => ⟨rfl, K1, A1⟩)
set_option maxRecDepth 65536 in
set_option maxHeartbeats 4000000 in
theorem n_asbappend (l : Launch) (Z : State) (a0 : Array Value) (hw : ∀ d ∈ tables_1, d.before a0 Z = true) (n0 : Nat) (h0 : Heap) (cc : Int32) (fv : Value) (ss : own_SS Z cc fv) (ol : Od Z n0 h0) (a b : Nat) (k : ClassId) (vs : List Value) (cs : List Nat) (B : own_SN Z h0 a b k vs cs) (sa sb : Nat) (sk : ClassId) (ds : List Nat) (S : St Z h0 sa sb sk ds) (hn0 : n0 ≤ h0.size) (hn : cs.length + ds.length ≤ 34) (hg : cs.length + ds.length ≤ 2 * vs.length + 2) (ge : n0 ≤ a) (geb : n0 ≤ b) (nsa : sa ≠ a) (nsb : sb ≠ a) (nsa2 : sa ≠ b) (nsb2 : sb ≠ b) :
    Con l [] (⟨"java/lang/AbstractStringBuilder", "append", "(Ljava/lang/String;)Ljava/lang/AbstractStringBuilder;"⟩ : MethodName) jdk_68_method_22_code 3 (some (.object "java/lang/AbstractStringBuilder")) ({ frames := 4, cells := 1, slots := 34, locals := 69 } : Room) Z #[(.ref a), (.ref sa)] h0 n0 (fun v h => v = some (.ref a) ∧ Keep h0 h [a, b] ∧ ∃ (b' : Nat) (k' : ClassId) (ws : List Value), own_SN Z h a b' k' ws (cs ++ ds) ∧ (b' = b ∨ h0.size ≤ b')) := by
  refine enter (Ls := #[.val (.ref a), .val (.ref sa), .unset]) pn13 (fun m => by first | (simp [entryFrame, mkF, argsToLocals, Value.category]; done) | rfl) ?_
  intro K C
  have lsa := S.lt
  have lb0 := B.2.2.2.2.1.lt
  refine r_aloadN C (pc' := 1) d12_0 rfl rfl rfl ?_
  refine r_ifnonnull_t C (pc' := 9) d12_1 (by decide) (by decide) rfl (fun e => nomatch e) ?_
  refine r_aloadN C (pc' := 10) d12_9 rfl rfl rfl ?_
  refine r_callV C (pc' := 13) (argsL := []) (c_length l Z a0 hw n0 h0 cc fv ss ol sa sb sk ds S) S.1 d12_10 rfl (w70 hw) (w71 hw) (nfSel (z := ({ cls := "java/lang/String", name := "length", desc := "()I" } : Jvm.MethodName)) (w73 hw)) (w73 hw) (w72 hw) (w8 hw) (w74 hw) (by decide) pd8 (st := []) rfl rfl rfl (W := 0) (Nat.le_of_eq rfl) (by decide) (by decide) (by decide) (by decide) (cells' := 0) (slots' := 0) rfl rfl ?_
  rintro _ _ ⟨rfl, rfl⟩
  show Run _ _ _ _ _ _ _ _ 13 #[.val (.ref a), .val (.ref sa), .unset] [.int (i32 ds.length)]
  refine r_istoreN C (pc' := 14) (Ls' := #[.val (.ref a), .val (.ref sa), .val (.int (i32 ds.length))]) d12_13 rfl rfl ?_
  refine r_aloadN C (pc' := 15) d12_14 rfl rfl rfl ?_
  refine r_aloadN C (pc' := 16) d12_15 rfl rfl rfl ?_
  refine r_getF C (pc' := 19) d12_16 rfl (w80 hw) Via.refl B.2.2.2.1 ?_
  refine r_iloadN C (pc' := 20) d12_19 rfl rfl ?_
  refine r_iadd C (pc' := 21) d12_20 rfl ?_
  rw [i32_add]
  refine r_callPX C (pc' := 24) (argsL := [.int (i32 (cs.length + ds.length))]) (n_ensure l Z a0 hw n0 _ a b k vs cs B hn0 ge _ hn hg) B.1 d12_21 rfl (w82 hw) (w83 hw) (w85 hw) (w84 hw) (w52 hw) (w86 hw) (by decide) pd1 (st := []) rfl rfl rfl (W := 0) (Nat.le_of_eq rfl) (by decide) (by decide) (by decide) (by decide) (cells' := 1) (slots' := 34) rfl rfl ?_
  rintro _ h1 ⟨rfl, K1, b', k', vs', B', hle, hb'⟩
  show Run _ _ _ _ _ h1 _ _ 24 #[.val (.ref a), .val (.ref sa), .val (.int (i32 ds.length))] []
  have x1 := K1.1
  replace S := S.keep K1 (ninS (nn nsa) nin0) (ninS (nn nsb) nin0)
  replace ol := ol.keep K1 (allS ge all0)
  clear B
  have nsa3 : sa ≠ b' := by omega
  have nsb3 : sb ≠ b' := by omega
  refine r_aloadN C (pc' := 25) d12_24 rfl rfl rfl ?_
  refine r_aloadN C (pc' := 26) d12_25 rfl rfl rfl ?_
  refine r_getF C (pc' := 29) d12_26 rfl (w80 hw) Via.refl B'.2.2.2.1 ?_
  refine r_aloadN C (pc' := 30) d12_29 rfl rfl rfl ?_
  refine r_callPX C (pc' := 33) (argsL := [.int (i32 cs.length), .ref sa]) (n_putAt l Z a0 hw n0 _ cc fv ss ol a b' k' vs' cs B' sa sb sk ds S cs.length hle (by omega)) B'.1 d12_30 rfl (w87 hw) (w88 hw) (w90 hw) (w89 hw) (w52 hw) (w91 hw) (by decide) pd9 (st := []) rfl rfl rfl (W := 0) (Nat.le_of_eq rfl) (by decide) (by decide) (by decide) (by decide) (cells' := 1) (slots' := 34) rfl rfl ?_
  rintro _ h2 ⟨rfl, K2, A1⟩
  show Run _ _ _ _ _ h2 _ _ 33 #[.val (.ref a), .val (.ref sa), .val (.int (i32 ds.length))] []
  refine r_aloadN C (pc' := 34) d12_33 rfl rfl rfl ?_
  refine r_dup C (pc' := 35) d12_34 rfl rfl ?_
  obtain ⟨E, Fv, Fc, Fn, A, e1, e2, e3, nab, Eb⟩ := B'
  replace E := E.keep K2
  replace Eb := Eb.keep K2
  replace Fv := Fv.keep K2 (ninS (nn nab) nin0)
  replace Fc := Fc.keep K2 (ninS (nn nab) nin0)
  replace Fn := Fn.keep K2 (ninS (nn nab) nin0)
  refine r_getF C (pc' := 38) d12_35 rfl (w80 hw) Via.refl Fn ?_
  refine r_iloadN C (pc' := 39) d12_38 rfl rfl ?_
  refine r_iadd C (pc' := 40) d12_39 rfl ?_
  rw [i32_add]
  refine r_putF C (pc' := 43) d12_40 rfl (w80 hw) Via.refl Fn E (Or.inl (w81 hw)) (w43 hw) (ty := .int) (by decide) rfl rfl ge ?_
  intro h3 W3
  replace Fv := Fv.other W3 (Or.inr (sn4 (Z := Z) hw))
  replace Fc := Fc.other W3 (Or.inr (sn5 (Z := Z) hw))
  replace Fn := Fn.same W3
  replace E := E.wr W3
  replace A1 := A1.other W3 (nn (Ne.symm nab))
  replace Eb := Eb.wr W3
  refine r_aloadN C (pc' := 44) d12_43 rfl rfl rfl ?_
  have hlen : (vs'.take cs.length ++ (ds.map by8).map Value.int ++ vs'.drop (cs.length + ds.length)).length = vs'.length := by simp only [List.length_append, List.length_take, List.length_drop, List.length_map]; omega
  have htk : (vs'.take cs.length ++ (ds.map by8).map Value.int ++ vs'.drop (cs.length + ds.length)).take (cs ++ ds).length = ((cs ++ ds).map by8).map Value.int := by
    have := own_sbtake (vs := vs') (ds := (ds.map by8).map Value.int) (n := cs.length) (by rw [own_blen]; omega)
    rw [own_blen] at this; rw [List.length_append, this, e2, List.map_append, List.map_append]
  have K12 : Keep h0 h2 [a, b] := ((Keep.refl h0 [a, b]).trans K1 (by simp)).trans K2 (allS (by rcases hb' with rfl | z; exact Or.inl (by simp); exact Or.inr z) all0)
  exact r_areturn C d12_44 rfl rfl (by decide) (by decide) (Nat.zero_le _) (fun _ _ => ⟨rfl, K12.wr W3 (Or.inl (by simp)), b', k', _, ⟨E, Fv, Fc, by rw [List.length_append]; exact Fn, A1, by rw [hlen]; exact e1, htk, by rw [hlen, List.length_append]; omega, nab, Eb⟩, hb'⟩)
set_option maxRecDepth 65536 in
set_option maxHeartbeats 4000000 in
theorem n_sbappend (l : Launch) (Z : State) (a0 : Array Value) (hw : ∀ d ∈ tables_1, d.before a0 Z = true) (n0 : Nat) (h0 : Heap) (cc : Int32) (fv : Value) (ss : own_SS Z cc fv) (ol : Od Z n0 h0) (a b : Nat) (k : ClassId) (vs : List Value) (cs : List Nat) (B : own_SN Z h0 a b k vs cs) (sa sb : Nat) (sk : ClassId) (ds : List Nat) (S : St Z h0 sa sb sk ds) (hn0 : n0 ≤ h0.size) (hn : cs.length + ds.length ≤ 34) (hg : cs.length + ds.length ≤ 2 * vs.length + 2) (ge : n0 ≤ a) (geb : n0 ≤ b) (nsa : sa ≠ a) (nsb : sb ≠ a) (nsa2 : sa ≠ b) (nsb2 : sb ≠ b) :
    Con l [] (⟨"java/lang/StringBuilder", "append", "(Ljava/lang/String;)Ljava/lang/StringBuilder;"⟩ : MethodName) jdk_67_method_7_code 2 (some (.object "java/lang/StringBuilder")) ({ frames := 5, cells := 1, slots := 34, locals := 83 } : Room) Z #[(.ref a), (.ref sa)] h0 n0 (fun v h => v = some (.ref a) ∧ Keep h0 h [a, b] ∧ ∃ (b' : Nat) (k' : ClassId) (ws : List Value), own_SN Z h a b' k' ws (cs ++ ds) ∧ (b' = b ∨ h0.size ≤ b')) := by
  refine enter (Ls := #[.val (.ref a), .val (.ref sa)]) pn14 (fun m => by first | (simp [entryFrame, mkF, argsToLocals, Value.category]; done) | rfl) ?_
  intro K C
  refine r_aloadN C (pc' := 1) d11_0 rfl rfl rfl ?_
  refine r_aloadN C (pc' := 2) d11_1 rfl rfl rfl ?_
  refine r_callX C (pc' := 5) (argsL := [.ref sa]) (n_asbappend l Z a0 hw n0 h0 cc fv ss ol a b k vs cs B sa sb sk ds S hn0 hn hg ge geb nsa nsb nsa2 nsb2) (Ins.of_exa B.1 (w51 hw)) d11_2 rfl (w65 hw) (w66 hw) (nf_cls (y' := ({ cls := "java/lang/AbstractStringBuilder", name := "ensureCapacityInternal", desc := "(I)V" } : Jvm.MethodName)) rfl (w83 hw) (notFace_of_selects (w85 hw))) (w67 hw) (w52 hw) (w69 hw) (by decide) (by decide) pd10 (st := []) rfl rfl rfl (W := 0) (Nat.le_of_eq rfl) (by decide) (by decide) (by decide) (by decide) (cells' := 1) (slots' := 34) rfl rfl ?_
  rintro _ h1 ⟨rfl, K1, r⟩
  show Run _ _ _ _ _ h1 _ _ 5 #[.val (.ref a), .val (.ref sa)] [.ref a]
  refine r_pop C (pc' := 6) d11_5 rfl rfl ?_
  refine r_aloadN C (pc' := 7) d11_6 rfl rfl rfl ?_
  exact r_areturn C d11_7 rfl rfl (by decide) (by decide) (Nat.zero_le _) (fun _ _ => ⟨rfl, K1, r⟩)
set_option maxRecDepth 65536 in
set_option maxHeartbeats 4000000 in
theorem n_getValue (l : Launch) (Z : State) (a0 : Array Value) (hw : ∀ d ∈ tables_1, d.before a0 Z = true) (n0 : Nat) (h0 : Heap) (a b : Nat) (k : ClassId) (vs : List Value) (cs : List Nat) (B : own_SN Z h0 a b k vs cs) :
    Con l [] (⟨"java/lang/AbstractStringBuilder", "getValue", "()[B"⟩ : MethodName) jdk_68_method_64_code 1 (some (.array .byte)) ({ frames := 0, cells := 0, slots := 0, locals := 0 } : Room) Z #[(.ref a)] h0 n0 (fun v h => v = some (.ref b) ∧ h0 = h) := by
  refine enter (Ls := #[.val (.ref a)]) pn15 (fun m => by first | (simp [entryFrame, mkF, argsToLocals, Value.category]; done) | rfl) ?_
  intro K C
  refine r_aloadN C (pc' := 1) d27_0 rfl rfl rfl ?_
  refine r_getF C (pc' := 4) d27_1 rfl (w56 hw) Via.refl B.2.1 ?_
  exact r_areturn C d27_4 rfl rfl (by decide) (by decide) (Nat.zero_le _) (fun _ _ => ⟨rfl, rfl⟩)
set_option maxRecDepth 65536 in
set_option maxHeartbeats 4000000 in
theorem n_asblen (l : Launch) (Z : State) (a0 : Array Value) (hw : ∀ d ∈ tables_1, d.before a0 Z = true) (n0 : Nat) (h0 : Heap) (a b : Nat) (k : ClassId) (vs : List Value) (cs : List Nat) (B : own_SN Z h0 a b k vs cs) :
    Con l [] (⟨"java/lang/AbstractStringBuilder", "length", "()I"⟩ : MethodName) jdk_68_method_6_code 1 (some .int) ({ frames := 0, cells := 0, slots := 0, locals := 0 } : Room) Z #[(.ref a)] h0 n0 (fun v h => v = some (.int (i32 cs.length)) ∧ h0 = h) := by
  refine enter (Ls := #[.val (.ref a)]) pn16 (fun m => by first | (simp [entryFrame, mkF, argsToLocals, Value.category]; done) | rfl) ?_
  intro K C
  refine r_aloadN C (pc' := 1) d29_0 rfl rfl rfl ?_
  refine r_getF C (pc' := 4) d29_1 rfl (w80 hw) Via.refl B.2.2.2.1 ?_
  exact r_ireturn C d29_4 (by decide) (by decide) (Nat.zero_le _) (fun _ _ => ⟨rfl, rfl⟩)
set_option maxRecDepth 65536 in
set_option maxHeartbeats 4000000 in
theorem n_sblen (l : Launch) (Z : State) (a0 : Array Value) (hw : ∀ d ∈ tables_1, d.before a0 Z = true) (n0 : Nat) (h0 : Heap) (a b : Nat) (k : ClassId) (vs : List Value) (cs : List Nat) (B : own_SN Z h0 a b k vs cs) :
    Con l [] (⟨"java/lang/StringBuilder", "length", "()I"⟩ : MethodName) jdk_67_method_93_code 1 (some .int) ({ frames := 1, cells := 0, slots := 0, locals := 12 } : Room) Z #[(.ref a)] h0 n0 (fun v h => v = some (.int (i32 cs.length)) ∧ h0 = h) := by
  refine enter (Ls := #[.val (.ref a)]) pn17 (fun m => by first | (simp [entryFrame, mkF, argsToLocals, Value.category]; done) | rfl) ?_
  intro K C
  refine r_aloadN C (pc' := 1) d28_0 rfl rfl rfl ?_
  refine r_callX C (pc' := 4) (argsL := []) (n_asblen l Z a0 hw n0 h0 a b k vs cs B) (Ins.of_exa B.1 (w51 hw)) d28_1 rfl (w154 hw) (w150 hw) (nf_cls (y' := ({ cls := "java/lang/AbstractStringBuilder", name := "ensureCapacityInternal", desc := "(I)V" } : Jvm.MethodName)) rfl (w83 hw) (notFace_of_selects (w85 hw))) (w67 hw) (w52 hw) (w155 hw) (by decide) (by decide) pd8 (st := []) rfl rfl rfl (W := 0) (Nat.le_of_eq rfl) (by decide) (by decide) (by decide) (by decide) (cells' := 0) (slots' := 0) rfl rfl ?_
  rintro _ _ ⟨rfl, rfl⟩
  show Run _ _ _ _ _ _ _ _ 4 #[.val (.ref a)] [.int (i32 cs.length)]
  exact r_ireturn C d28_4 (by decide) (by decide) (Nat.zero_le _) (fun _ _ => ⟨rfl, rfl⟩)
set_option maxRecDepth 65536 in
set_option maxHeartbeats 4000000 in
theorem n_asbL1 (l : Launch) (Z : State) (a0 : Array Value) (hw : ∀ d ∈ tables_1, d.before a0 Z = true) (n0 : Nat) (h0 : Heap) (cc : Int32) (fv : Value) (ss : own_SS Z cc fv) (ol : Od Z n0 h0) (a b : Nat) (k : ClassId) (vs : List Value) (cs : List Nat) (B : own_SN Z h0 a b k vs cs) :
    Con l [] (⟨"java/lang/AbstractStringBuilder", "isLatin1", "()Z"⟩ : MethodName) jdk_68_method_68_code 1 (some .boolean) ({ frames := 0, cells := 0, slots := 0, locals := 0 } : Room) Z #[(.ref a)] h0 n0 (fun v h => v = some (.int 1) ∧ h0 = h) := by
  refine enter (Ls := #[.val (.ref a)]) pn18 (fun m => by first | (simp [entryFrame, mkF, argsToLocals, Value.category]; done) | rfl) ?_
  intro K C
  refine r_getS C (pc' := 3) d22_0 rfl (w55 hw) Via.refl (ss.1.ext ol.2) ?_
  refine r_if_eq_f C (pc' := 6) d22_3 rfl ss.2.1 ?_
  refine r_aloadN C (pc' := 7) d22_6 rfl rfl rfl ?_
  refine r_getF C (pc' := 10) d22_7 rfl (w58 hw) Via.refl B.2.2.1 ?_
  refine r_if_ne_f C (pc' := 13) d22_10 rfl (by decide) ?_
  refine r_iconst C (pc' := 14) (v := 1) d22_13 rfl rfl ?_
  refine r_goto C (pc' := 18) d22_14 (by decide) (by decide) ?_
  exact r_zreturn C d22_18 rfl (by decide) (by decide) (Nat.zero_le _) (fun _ _ => ⟨rfl, rfl⟩)
set_option maxRecDepth 65536 in
set_option maxHeartbeats 4000000 in
theorem c_checkLen (l : Launch) (Z : State) (a0 : Array Value) (hw : ∀ d ∈ tables_1, d.before a0 Z = true) (n0 : Nat) (h0 : Heap) (n : Nat) (hn : n < 2147483648) :
    Con l [] (⟨"java/util/Arrays", "checkLength", "(II)V"⟩ : MethodName) jdk_65_method_131_code 2 none ({ frames := 0, cells := 0, slots := 0, locals := 0 } : Room) Z #[(.int (0 : Int32)), (.int (i32 n))] h0 n0 (fun v h => v = none ∧ h0 = h) := by
  refine enter (Ls := #[.val (.int (0 : Int32)), .val (.int (i32 n))]) pn19 (fun m => by first | (simp [entryFrame, mkF, argsToLocals, Value.category]; done) | rfl) ?_
  intro K C
  refine r_iloadN C (pc' := 1) d32_0 rfl rfl ?_
  refine r_iloadN C (pc' := 2) d32_1 rfl rfl ?_
  refine r_icmp_ge_t C (pc' := 37) d32_2 (by decide) (by decide) (i32_nn hn) ?_
  exact r_return C d32_37 (by decide) (by decide) (Nat.zero_le _) (fun _ _ => ⟨rfl, rfl⟩)
set_option maxRecDepth 65536 in
set_option maxHeartbeats 4000000 in
theorem n_crByte (l : Launch) (Z : State) (a0 : Array Value) (hw : ∀ d ∈ tables_1, d.before a0 Z = true) (n0 : Nat) (h0 : Heap) (hn0 : n0 ≤ h0.size) (b : Nat) (k : ClassId) (vs : List Value) (A : AV Z h0 b k .byte vs (.int 0)) (hv : vs.length ≤ 34) (n : Nat) (hn : n ≤ vs.length) :
    Con l [] (⟨"java/util/Arrays", "copyOfRangeByte", "([BII)[B"⟩ : MethodName) jdk_65_method_133_code 5 (some (.array .byte)) ({ frames := 1, cells := 1, slots := 34, locals := 40 } : Room) Z #[(.ref b), (.int (0 : Int32)), (.int (i32 n))] h0 n0 (fun v h => ∃ (b2 : Nat) (k2 : ClassId), v = some (.ref b2) ∧ b2 = h0.size ∧ Keep h0 h [] ∧ AV Z h b2 k2 .byte (vs.take n) (.int 0)) := by
  refine enter (Ls := #[.val (.ref b), .val (.int (0 : Int32)), .val (.int (i32 n)), .unset, .unset]) pn20 (fun m => by first | (simp [entryFrame, mkF, argsToLocals, Value.category]; done) | rfl) ?_
  intro K C
  have lb := A.lt
  refine r_iloadN C (pc' := 1) d31_0 rfl rfl ?_
  refine r_iloadN C (pc' := 2) d31_1 rfl rfl ?_
  refine r_callS C (pc' := 5) (argsL := [.int (0 : Int32), .int (i32 n)]) (c_checkLen l Z a0 hw n0 h0 n (by omega)) d31_2 rfl (w164 hw) (w165 hw) (w159 hw) (w166 hw) (by decide) pd11 (st := []) rfl rfl rfl (W := 0) (Nat.le_of_eq rfl) (by decide) (by decide) (by decide) (by decide) (cells' := 0) (slots' := 0) rfl rfl ?_
  rintro _ _ ⟨rfl, rfl⟩
  show Run _ _ _ _ _ _ _ _ 5 #[.val (.ref b), .val (.int (0 : Int32)), .val (.int (i32 n)), .unset, .unset] []
  refine r_iloadN C (pc' := 6) d31_5 rfl rfl ?_
  refine r_iloadN C (pc' := 7) d31_6 rfl rfl ?_
  refine r_isub C (pc' := 8) d31_7 rfl ?_
  rw [show i32 n - (0 : Int32) = i32 n from i32_sub (b := 0) (Nat.zero_le _)]
  refine r_istoreN C (pc' := 9) (Ls' := #[.val (.ref b), .val (.int (0 : Int32)), .val (.int (i32 n)), .val (.int (i32 n)), .unset]) d31_8 rfl rfl ?_
  refine r_iloadN C (pc' := 10) d31_9 rfl rfl ?_
  refine r_newarrayV C (pc' := 12) (ty := .byte) (m := n) (cap := 34) d31_10 rfl rfl (w24 hw) rfl (by omega) (by decide) (by decide) (by decide) ?_
  intro h1 b2 k2 gb E1 B1
  have x1 := E1.1
  refine r_astore C (pc' := 14) (Ls' := #[.val (.ref b), .val (.int (0 : Int32)), .val (.int (i32 n)), .val (.int (i32 n)), .val (.ref b2)]) d31_12 rfl rfl rfl ?_
  refine r_aloadN C (pc' := 15) d31_14 rfl rfl rfl ?_
  refine r_iloadN C (pc' := 16) d31_15 rfl rfl ?_
  refine r_aload C (pc' := 18) d31_16 rfl rfl rfl ?_
  refine r_iconst C (pc' := 19) (v := 0) d31_18 rfl rfl ?_
  refine r_aloadN C (pc' := 20) d31_19 rfl rfl rfl ?_
  refine r_lengthV C (pc' := 21) (n := vs.length) d31_20 rfl (A.ext E1) rfl ?_
  refine r_iloadN C (pc' := 22) d31_21 rfl rfl ?_
  refine r_isub C (pc' := 23) d31_22 rfl ?_
  refine r_iloadN C (pc' := 24) d31_23 rfl rfl ?_
  rw [show i32 vs.length - (0 : Int32) = i32 vs.length from i32_sub (b := 0) (Nat.zero_le _)]
  refine r_callS C (pc' := 27) (argsL := [.int (i32 vs.length), .int (i32 n)]) (c_min l Z a0 hw n0 h1 vs.length n (by omega) (by omega)) d31_24 rfl (w167 hw) (w168 hw) (w169 hw) (w170 hw) (by decide) pd2 (st := [.int (0 : Int32), .ref b2, .int (0 : Int32), .ref b]) rfl rfl rfl (W := 4) (Nat.le_of_eq rfl) (by decide) (by decide) (by decide) (by decide) (cells' := 1) (slots' := 34) rfl rfl ?_
  rintro _ _ ⟨rfl, rfl⟩
  show Run _ _ _ _ _ _ _ _ 27 #[.val (.ref b), .val (.int (0 : Int32)), .val (.int (i32 n)), .val (.int (i32 n)), .val (.ref b2)] [.int (i32 (min vs.length n)), .int (0 : Int32), .ref b2, .int (0 : Int32), .ref b]
  rw [Nat.min_eq_right hn]
  refine r_copy C (pc' := 30) (sp := 0) (dp := 0) (n := n) (W := 0) d31_27 rfl (w171 hw) (w106 hw) (w104 hw) (w105 hw) (A.ext E1) B1 rfl rfl rfl rfl (by omega) (by rw [List.length_replicate]; omega) (by omega) rfl (by decide) (Nat.le_of_eq rfl) (by decide) ?_
  intro h2 K2 B2
  refine r_aload C (pc' := 32) d31_30 rfl rfl rfl ?_
  have B3 := B2.cast (show _ = vs.take n by rw [List.take_zero, List.drop_zero, List.nil_append, List.drop_eq_nil_of_le (by rw [List.length_replicate]; omega), List.append_nil])
  exact r_areturn C d31_32 rfl rfl (by decide) (by decide) (Nat.zero_le _) (fun _ _ => ⟨b2, k2, rfl, gb, ((Keep.refl h0 []).ext E1).trans K2 (allS (Or.inr (by omega)) all0), B3⟩)
set_option maxRecDepth 65536 in
set_option maxHeartbeats 4000000 in
theorem n_cr (l : Launch) (Z : State) (a0 : Array Value) (hw : ∀ d ∈ tables_1, d.before a0 Z = true) (n0 : Nat) (h0 : Heap) (hn0 : n0 ≤ h0.size) (b : Nat) (k : ClassId) (vs : List Value) (A : AV Z h0 b k .byte vs (.int 0)) (hv : vs.length ≤ 34) (n : Nat) (hn : n ≤ vs.length) (Eb : Exa Z h0 b "[B") :
    Con l [] (⟨"java/util/Arrays", "copyOfRange", "([BII)[B"⟩ : MethodName) jdk_65_method_132_code 3 (some (.array .byte)) ({ frames := 2, cells := 1, slots := 34, locals := 56 } : Room) Z #[(.ref b), (.int (0 : Int32)), (.int (i32 n))] h0 n0 (fun v h => ∃ (b2 : Nat) (k2 : ClassId), v = some (.ref b2) ∧ b2 = h0.size ∧ Keep h0 h [] ∧ AV Z h b2 k2 .byte (vs.take n) (.int 0)) := by
  refine enter (Ls := #[.val (.ref b), .val (.int (0 : Int32)), .val (.int (i32 n))]) pn21 (fun m => by first | (simp [entryFrame, mkF, argsToLocals, Value.category]; done) | rfl) ?_
  intro K C
  refine r_iloadN C (pc' := 1) d30_0 rfl rfl ?_
  refine r_if_ne_f C (pc' := 4) d30_1 rfl (by decide) ?_
  refine r_iloadN C (pc' := 5) d30_4 rfl rfl ?_
  refine r_aloadN C (pc' := 6) d30_5 rfl rfl rfl ?_
  refine r_lengthV C (pc' := 7) (n := vs.length) d30_6 rfl A rfl ?_
  refine r_icmp_eq C (pt := 17) (pc' := 10) d30_7 (by decide) (by decide) rfl ?_ ?_
  · intro q
    have q' : n = vs.length := (i32_eq (by omega) (by omega)).mp q
    refine r_aloadN C (pc' := 18) d30_17 rfl rfl rfl ?_
    refine r_cloneV C (pc' := 21) (ad := "[B") (W := 0) (cap := 34) d30_18 rfl (w234 hw) (w235 hw) (w239 hw) (w237 hw) (w238 hw) (w240 hw) A Eb rfl (by decide) (Nat.le_of_eq rfl) (by decide) hv (by decide) (by decide) ?_
    intro h1 b2 gb E1 A1 E2
    refine r_checkcast C (pc' := 24) d30_21 rfl (w241 hw) (Ins.of_exa E2 (w242 hw)) ?_
    exact r_areturn C d30_24 rfl rfl (by decide) (by decide) (Nat.zero_le _) (fun _ _ => ⟨b2, k, rfl, gb, (Keep.refl h0 []).ext E1, by rw [q', List.take_length]; exact A1⟩)
  · intro q
    refine r_aloadN C (pc' := 11) d30_10 rfl rfl rfl ?_
    refine r_iloadN C (pc' := 12) d30_11 rfl rfl ?_
    refine r_iloadN C (pc' := 13) d30_12 rfl rfl ?_
    refine r_callS C (pc' := 16) (argsL := [.ref b, .int (0 : Int32), .int (i32 n)]) (n_crByte l Z a0 hw n0 h0 hn0 b k vs A hv n hn) d30_13 rfl (w161 hw) (w162 hw) (w159 hw) (w163 hw) (by decide) pd12 (st := []) rfl rfl rfl (W := 0) (Nat.le_of_eq rfl) (by decide) (by decide) (by decide) (by decide) (cells' := 1) (slots' := 34) rfl rfl ?_
    rintro _ h1 ⟨b2, k2, rfl, r⟩
    show Run _ _ _ _ _ h1 _ _ 16 #[.val (.ref b), .val (.int (0 : Int32)), .val (.int (i32 n))] [.ref b2]
    exact r_areturn C d30_16 rfl rfl (by decide) (by decide) (Nat.zero_le _) (fun _ _ => ⟨b2, k2, rfl, r⟩)
set_option maxRecDepth 65536 in
set_option maxHeartbeats 4000000 in
theorem n_strASB (l : Launch) (Z : State) (a0 : Array Value) (hw : ∀ d ∈ tables_1, d.before a0 Z = true) (n0 : Nat) (h0 : Heap) (cc : Int32) (fv : Value) (ss : own_SS Z cc fv) (ol : Od Z n0 h0) (hn0 : n0 ≤ h0.size) (s : Nat) (ge : n0 ≤ s) (E : Exa Z h0 s "java/lang/String") (vo co : Value) (Fv : Fld Z h0 s "java/lang/String" "value" "[B" vo) (Fc : Fld Z h0 s "java/lang/String" "coder" "B" co) (a b : Nat) (k : ClassId) (vs : List Value) (cs : List Nat) (B : own_SN Z h0 a b k vs cs) (nb : b ≠ s) :
    Con l [] (⟨"java/lang/String", "<init>", "(Ljava/lang/AbstractStringBuilder;Ljava/lang/Void;)V"⟩ : MethodName) jdk_42_method_150_code 5 none ({ frames := 3, cells := 1, slots := 34, locals := 71 } : Room) Z #[(.ref s), (.ref a), .null] h0 n0 (fun v h => v = none ∧ Keep h0 h [s] ∧ ∃ (b2 : Nat) (k2 : ClassId), St Z h s b2 k2 cs ∧ h0.size ≤ b2) := by
  refine enter (Ls := #[.val (.ref s), .val (.ref a), .val .null, .unset, .unset]) pn22 (fun m => by first | (simp [entryFrame, mkF, argsToLocals, Value.category]; done) | rfl) ?_
  intro K C
  have ls := exaLt E
  have hv := B.2.2.2.2.2.1
  refine r_aloadN C (pc' := 1) d26_0 rfl rfl rfl ?_
  refine r_initO C (pc' := 4) (W := 0) d26_1 rfl (w16 hw) (w17 hw) (w18 hw) rfl (by decide) (Nat.le_of_eq rfl) (by decide) ?_
  refine r_aloadN C (pc' := 5) d26_4 rfl rfl rfl ?_
  refine r_callV C (pc' := 8) (argsL := []) (n_getValue l Z a0 hw n0 h0 a b k vs cs B) B.1 d26_5 rfl (w143 hw) (w144 hw) (nfSel (z := ({ cls := "java/lang/AbstractStringBuilder", name := "getValue", desc := "()[B" } : Jvm.MethodName)) (w146 hw)) (w146 hw) (w145 hw) (w52 hw) (w147 hw) (by decide) pd13 (st := []) rfl rfl rfl (W := 0) (Nat.le_of_eq rfl) (by decide) (by decide) (by decide) (by decide) (cells' := 0) (slots' := 0) rfl rfl ?_
  rintro _ _ ⟨rfl, rfl⟩
  show Run _ _ _ _ _ _ _ _ 8 #[.val (.ref s), .val (.ref a), .val .null, .unset, .unset] [.ref b]
  refine r_astoreN C (pc' := 9) (Ls' := #[.val (.ref s), .val (.ref a), .val .null, .val (.ref b), .unset]) d26_8 rfl rfl rfl ?_
  refine r_aloadN C (pc' := 10) d26_9 rfl rfl rfl ?_
  refine r_callV C (pc' := 13) (argsL := []) (n_sblen l Z a0 hw n0 _ a b k vs cs B) B.1 d26_10 rfl (w148 hw) (w149 hw) (fun s args hZ => nf_cls (Z := s) (a0 := args) (y' := ({ cls := "java/lang/AbstractStringBuilder", name := "ensureCapacityInternal", desc := "(I)V" } : Jvm.MethodName)) rfl (mvT hZ (w83 hw)) (notFace_of_selects (args := args) (mvT hZ (w85 hw)))) (w151 hw) (w152 hw) (w44 hw) (w153 hw) (by decide) pd8 (st := []) rfl rfl rfl (W := 0) (Nat.le_of_eq rfl) (by decide) (by decide) (by decide) (by decide) (cells' := 0) (slots' := 0) rfl rfl ?_
  rintro _ _ ⟨rfl, rfl⟩
  show Run _ _ _ _ _ _ _ _ 13 #[.val (.ref s), .val (.ref a), .val .null, .val (.ref b), .unset] [.int (i32 cs.length)]
  refine r_istore C (pc' := 15) (Ls' := #[.val (.ref s), .val (.ref a), .val .null, .val (.ref b), .val (.int (i32 cs.length))]) d26_13 rfl rfl ?_
  refine r_aloadN C (pc' := 16) d26_15 rfl rfl rfl ?_
  refine r_callV C (pc' := 19) (argsL := []) (n_asbL1 l Z a0 hw n0 _ cc fv ss ol a b k vs cs B) B.1 d26_16 rfl (w156 hw) (w123 hw) (nfSel (z := ({ cls := "java/lang/AbstractStringBuilder", name := "isLatin1", desc := "()Z" } : Jvm.MethodName)) (w125 hw)) (w125 hw) (w124 hw) (w52 hw) (w126 hw) (by decide) pd14 (st := []) rfl rfl rfl (W := 0) (Nat.le_of_eq rfl) (by decide) (by decide) (by decide) (by decide) (cells' := 0) (slots' := 0) rfl rfl ?_
  rintro _ _ ⟨rfl, rfl⟩
  show Run _ _ _ _ _ _ _ _ 19 #[.val (.ref s), .val (.ref a), .val .null, .val (.ref b), .val (.int (i32 cs.length))] [.int (1 : Int32)]
  refine r_if_eq_f C (pc' := 22) d26_19 rfl (by decide) ?_
  refine r_aloadN C (pc' := 23) d26_22 rfl rfl rfl ?_
  refine r_iconst C (pc' := 24) (v := 0) d26_23 rfl rfl ?_
  have A := B.2.2.2.2.1
  have Eb := B.2.2.2.2.2.2.2.2.2
  refine r_putF C (pc' := 27) d26_24 rfl (w31 hw) Via.refl Fc E (Or.inr ⟨(w32 hw), rfl, rfl⟩) (w7 hw) (ty := .byte) (by decide) rfl rfl ge ?_
  intro h1 W1
  replace Fv := Fv.other W1 (Or.inr (sn6 (Z := Z) hw))
  replace Fc := Fc.same W1
  replace E := E.wr W1
  replace A := A.other W1 (nn nb)
  replace Eb := Eb.wr W1
  have x1 := W1.size
  refine r_aloadN C (pc' := 28) d26_27 rfl rfl rfl ?_
  refine r_aloadN C (pc' := 29) d26_28 rfl rfl rfl ?_
  refine r_iconst C (pc' := 30) (v := 0) d26_29 rfl rfl ?_
  refine r_iload C (pc' := 32) d26_30 rfl rfl ?_
  refine r_callS C (pc' := 35) (argsL := [.ref b, .int (0 : Int32), .int (i32 cs.length)]) (n_cr l Z a0 hw n0 h1 (by omega) b k vs A (by omega) cs.length B.2.2.2.2.2.2.2.1 Eb) d26_32 rfl (w157 hw) (w158 hw) (w159 hw) (w160 hw) (by decide) pd12 (st := [.ref s]) rfl rfl rfl (W := 1) (Nat.le_of_eq rfl) (by decide) (by decide) (by decide) (by decide) (cells' := 1) (slots' := 34) rfl rfl ?_
  rintro _ h2 ⟨b2, k2, rfl, gb, K2, A2⟩
  show Run _ _ _ _ _ h2 _ _ 35 #[.val (.ref s), .val (.ref a), .val .null, .val (.ref b), .val (.int (i32 cs.length))] [.ref b2, .ref s]
  replace Fv := Fv.keep K2 nin0
  replace Fc := Fc.keep K2 nin0
  replace E := E.keep K2
  rw [B.2.2.2.2.2.2.1] at A2
  refine r_putF C (pc' := 38) d26_35 rfl (w33 hw) Via.refl Fv E (Or.inr ⟨(w34 hw), rfl, rfl⟩) (w7 hw) (ty := (.array .byte)) (by decide) rfl rfl ge ?_
  intro h3 W3
  replace Fv := Fv.same W3
  replace Fc := Fc.other W3 (Or.inr (sn7 (Z := Z) hw))
  replace E := E.wr W3
  replace A2 := A2.other W3 (nn (by omega))
  refine r_goto C (pc' := 97) d26_38 (by decide) (by decide) ?_
  exact r_return C d26_97 (by decide) (by decide) (Nat.zero_le _) (fun _ _ => ⟨rfl, (((Keep.refl h0 [s]).wr W1 (Or.inl (by simp))).trans K2 all0).wr W3 (Or.inl (by simp)), b2, k2, ⟨E, Fc, Fv, A2⟩, by omega⟩)
set_option maxRecDepth 65536 in
set_option maxHeartbeats 4000000 in
theorem n_strSB (l : Launch) (Z : State) (a0 : Array Value) (hw : ∀ d ∈ tables_1, d.before a0 Z = true) (n0 : Nat) (h0 : Heap) (cc : Int32) (fv : Value) (ss : own_SS Z cc fv) (ol : Od Z n0 h0) (hn0 : n0 ≤ h0.size) (s : Nat) (ge : n0 ≤ s) (E : Exa Z h0 s "java/lang/String") (vo co : Value) (Fv : Fld Z h0 s "java/lang/String" "value" "[B" vo) (Fc : Fld Z h0 s "java/lang/String" "coder" "B" co) (a b : Nat) (k : ClassId) (vs : List Value) (cs : List Nat) (B : own_SN Z h0 a b k vs cs) (nb : b ≠ s) :
    Con l [] (⟨"java/lang/String", "<init>", "(Ljava/lang/StringBuilder;)V"⟩ : MethodName) jdk_42_method_53_code 2 none ({ frames := 4, cells := 1, slots := 34, locals := 87 } : Room) Z #[(.ref s), (.ref a)] h0 n0 (fun v h => v = none ∧ Keep h0 h [s] ∧ ∃ (b2 : Nat) (k2 : ClassId), St Z h s b2 k2 cs ∧ h0.size ≤ b2) := by
  refine enter (Ls := #[.val (.ref s), .val (.ref a)]) pn23 (fun m => by first | (simp [entryFrame, mkF, argsToLocals, Value.category]; done) | rfl) ?_
  intro K C
  refine r_aloadN C (pc' := 1) d25_0 rfl rfl rfl ?_
  refine r_aloadN C (pc' := 2) d25_1 rfl rfl rfl ?_
  refine r_aconst_null C (pc' := 3) d25_2 rfl ?_
  refine r_callI C (pc' := 6) (argsL := [.ref a, .null]) (n_strASB l Z a0 hw n0 h0 cc fv ss ol hn0 s ge E vo co Fv Fc a b k vs cs B nb) d25_3 rfl (w140 hw) (w141 hw) (w8 hw) (w142 hw) rfl (by decide) pd15 (st := []) rfl rfl rfl (W := 0) (Nat.le_of_eq rfl) (by decide) (by decide) (by decide) (by decide) (cells' := 1) (slots' := 34) rfl rfl ?_
  rintro _ h1 ⟨rfl, K1, r⟩
  show Run _ _ _ _ _ h1 _ _ 6 #[.val (.ref s), .val (.ref a)] []
  exact r_return C d25_6 (by decide) (by decide) (Nat.zero_le _) (fun _ _ => ⟨rfl, K1, r⟩)
set_option maxRecDepth 65536 in
set_option maxHeartbeats 4000000 in
theorem n_sbtoString (l : Launch) (Z : State) (a0 : Array Value) (hw : ∀ d ∈ tables_1, d.before a0 Z = true) (n0 : Nat) (h0 : Heap) (cc : Int32) (fv : Value) (ss : own_SS Z cc fv) (ol : Od Z n0 h0) (hn0 : n0 ≤ h0.size) (a b : Nat) (k : ClassId) (vs : List Value) (cs : List Nat) (B : own_SN Z h0 a b k vs cs) :
    Con l [] (⟨"java/lang/StringBuilder", "toString", "()Ljava/lang/String;"⟩ : MethodName) jdk_67_method_42_code 1 (some (.object "java/lang/String")) ({ frames := 5, cells := 2, slots := 38, locals := 101 } : Room) Z #[(.ref a)] h0 n0 (fun v h => ∃ (s b2 : Nat) (k2 : ClassId), v = some (.ref s) ∧ Keep h0 h [] ∧ St Z h s b2 k2 cs) := by
  refine enter (Ls := #[.val (.ref a)]) pn24 (fun m => by first | (simp [entryFrame, mkF, argsToLocals, Value.category]; done) | rfl) ?_
  intro K C
  have lb := B.2.2.2.2.1.lt
  refine r_new C (pc' := 3) d24_0 rfl (w136 hw) (w7 hw) (w8 hw) (by decide) (by decide) ?_
  intro h1 s gs E1 E D1
  have Fv : Fld Z h1 s "java/lang/String" "value" "[B" (.null) := D1 (Or.inr (w34 hw)) (ty := (.array .byte)) (by decide)
  have Fc : Fld Z h1 s "java/lang/String" "coder" "B" (.int 0) := D1 (Or.inr (w32 hw)) (ty := .byte) (by decide)
  have x_h1 := E1.1
  refine r_dup C (pc' := 4) d24_3 rfl rfl ?_
  refine r_aloadN C (pc' := 5) d24_4 rfl rfl rfl ?_
  refine r_callI C (pc' := 8) (argsL := [.ref a]) (n_strSB l Z a0 hw n0 h1 cc fv ss (ol.ext E1) (by omega) s (by omega) E _ _ Fv Fc a b k vs cs (B.ext E1) (by omega)) d24_5 rfl (w137 hw) (w138 hw) (w8 hw) (w139 hw) rfl (by decide) pd16 (st := [.ref s]) rfl rfl rfl (W := 1) (Nat.le_of_eq rfl) (by decide) (by decide) (by decide) (by decide) (cells' := 2) (slots' := 38) rfl rfl ?_
  rintro _ h2 ⟨rfl, K2, b2, k2, S, gb⟩
  show Run _ _ _ _ _ h2 _ _ 8 #[.val (.ref a)] [.ref s]
  exact r_areturn C d24_8 rfl rfl (by decide) (by decide) (Nat.zero_le _) (fun _ _ => ⟨s, b2, k2, rfl, ((Keep.refl h0 []).ext E1).trans K2 (allS (Or.inr (by omega)) all0), S⟩)
set_option maxRecDepth 65536 in
set_option maxHeartbeats 4000000 in
theorem i_size (l : Launch) (Z : State) (a0 : Array Value) (hw : ∀ d ∈ tables_1, d.before a0 Z = true) (n0 : Nat) (h0 : Heap) (y : Int32) :
    Con l [] (⟨"java/lang/Integer", "stringSize", "(I)I"⟩ : MethodName) jdk_33_method_13_code 4 (some .int) ({ frames := 0, cells := 0, slots := 0, locals := 0 } : Room) Z #[(.int y)] h0 n0 (fun v h => v = some (.int (i32 (own_num y).length)) ∧ h0 = h) := by
  refine enter (Ls := #[.val (.int y), .unset, .unset, .unset]) pn25 (fun m => by first | (simp [entryFrame, mkF, argsToLocals, Value.category]; done) | rfl) ?_
  intro K C
  refine r_iconst C (pc' := 1) (v := 1) d21_0 rfl rfl ?_
  refine r_istoreN C (pc' := 2) (Ls' := #[.val (.int y), .val (.int (1 : Int32)), .unset, .unset]) d21_1 rfl rfl ?_
  refine r_iloadN C (pc' := 3) d21_2 rfl rfl ?_
  refine r_if_lt C (pt := 11) (pc' := 6) d21_3 (by decide) (by decide) rfl ?_ ?_
  · intro q
    obtain ⟨e, hb, -⟩ := own_mneg q
    have hl := own_numLen y
    obtain ⟨N, eN⟩ : ∃ N, N = y.toInt.natAbs := ⟨_, rfl⟩
    rw [← eN] at hl e hb
    have en : (own_num y).length = (own_dig N).length + 1 := by rw [own_num, if_pos (show  y < 0 from q), eN]; simp
    rw [show Slot.val (.int y) = Slot.val (.int (own_m N)) from congrArg (fun z => Slot.val (.int z)) e]
    have loop : ∀ (m i : Nat), 10 - i = m → 1 ≤ i → i ≤ 10 → i ≤ (own_dig N).length → Run l ({ frames := 0, cells := 0, slots := 0, locals := 0 } : Room) n0 (fun v h _ => v = some (.int (i32 (own_num y).length)) ∧ h0 = h) K h0 0 0 16 #[.val (.int (own_m N)), .val (.int (1 : Int32)), .val (.int (own_m (10 ^ i))), .val (.int (i32 i))] [] := by
      intro m
      induction m with
      | zero =>
        intro i hm h1 h10 hi
        obtain rfl : i = 10 := by omega
        refine r_iloadN C (pc' := 17) d21_16 rfl rfl ?_
        refine r_bipush C (pc' := 19) (v := (10)) d21_17 rfl rfl ?_
        refine r_icmp_ge_t C (pc' := 42) d21_19 (by decide) (by decide) (by decide) ?_
        refine r_bipush C (pc' := 44) (v := (10)) d21_42 rfl rfl ?_
        refine r_iloadN C (pc' := 45) d21_44 rfl rfl ?_
        refine r_iadd C (pc' := 46) d21_45 rfl ?_
        rw [show (10 : Int32) + (1 : Int32) = i32 (own_num y).length by rw [en, show (own_dig N).length = 10 by omega]; rfl]
        exact r_ireturn C d21_46 (by decide) (by decide) (Nat.zero_le _) (fun _ _ => ⟨rfl, rfl⟩)
      | succ m ih =>
        intro i hm h1 h10 hi
        have hlt : i < 10 := by omega
        have hp := own_pow9 hlt
        refine r_iloadN C (pc' := 17) d21_16 rfl rfl ?_
        refine r_bipush C (pc' := 19) (v := (10)) d21_17 rfl rfl ?_
        refine r_icmp_ge_f C (pc' := 22) d21_19 rfl ((i32_lt (b := 10) (by omega) (by decide)).mpr hlt) ?_
        refine r_iloadN C (pc' := 23) d21_22 rfl rfl ?_
        refine r_iloadN C (pc' := 24) d21_23 rfl rfl ?_
        refine r_icmp_le C (pt := 31) (pc' := 27) d21_24 (by decide) (by decide) rfl ?_ ?_
        · intro r
          have r' : ¬ N < 10 ^ i := fun z => r ((own_mlt (by omega) (by omega)).mpr z)
          refine r_bipush C (pc' := 33) (v := (10)) d21_31 rfl rfl ?_
          refine r_iloadN C (pc' := 34) d21_33 rfl rfl ?_
          refine r_imul C (pc' := 35) d21_34 rfl ?_
          refine r_istoreN C (pc' := 36) (Ls' := #[.val (.int (own_m N)), .val (.int (1 : Int32)), .val (.int ((10 : Int32) * (own_m (10 ^ i)))), .val (.int (i32 i))]) d21_35 rfl rfl ?_
          refine r_iinc C (pc' := 39) (v := (1)) (Ls' := #[.val (.int (own_m N)), .val (.int (1 : Int32)), .val (.int ((10 : Int32) * (own_m (10 ^ i)))), .val (.int ((i32 i) + (1 : Int32)))]) d21_36 rfl rfl rfl rfl ?_
          refine r_goto C (pc' := 16) d21_39 (by decide) (by decide) ?_
          rw [own_mstep, show i32 i + (1 : Int32) = i32 (i + 1) from i32_add i 1]
          have hd := own_dlen (i - 1) N
          rw [Nat.sub_add_cancel h1] at hd
          exact ih (i + 1) (by omega) (by omega) (by omega) (by omega)
        · intro r
          have r' : N < 10 ^ i := (own_mlt (by omega) (by omega)).mp r
          have hd := own_dlen (i - 1) N
          rw [Nat.sub_add_cancel h1] at hd
          refine r_iloadN C (pc' := 28) d21_27 rfl rfl ?_
          refine r_iloadN C (pc' := 29) d21_28 rfl rfl ?_
          refine r_iadd C (pc' := 30) d21_29 rfl ?_
          rw [show i32 i + (1 : Int32) = i32 (own_num y).length by rw [en, show (own_dig N).length = i by omega]; exact i32_add i 1]
          exact r_ireturn C d21_30 (by decide) (by decide) (Nat.zero_le _) (fun _ _ => ⟨rfl, rfl⟩)
    refine r_bipush C (pc' := 13) (v := (-10)) d21_11 rfl rfl ?_
    refine r_istoreN C (pc' := 14) (Ls' := #[.val (.int (own_m N)), .val (.int (1 : Int32)), .val (.int (-10 : Int32)), .unset]) d21_13 rfl rfl ?_
    refine r_iconst C (pc' := 15) (v := 1) d21_14 rfl rfl ?_
    refine r_istoreN C (pc' := 16) (Ls' := #[.val (.int (own_m N)), .val (.int (1 : Int32)), .val (.int (-10 : Int32)), .val (.int (1 : Int32))]) d21_15 rfl rfl ?_
    rw [own_m10]
    exact loop _ 1 rfl (by decide) (by decide) (own_digpos N)
  · intro q
    obtain ⟨e, hb⟩ := own_mpos q
    refine r_iconst C (pc' := 7) (v := 0) d21_6 rfl rfl ?_
    refine r_istoreN C (pc' := 8) (Ls' := #[.val (.int y), .val (.int (0 : Int32)), .unset, .unset]) d21_7 rfl rfl ?_
    refine r_iloadN C (pc' := 9) d21_8 rfl rfl ?_
    refine r_ineg C (pc' := 10) d21_9 rfl ?_
    refine r_istoreN C (pc' := 11) (Ls' := #[.val (.int (-y)), .val (.int (0 : Int32)), .unset, .unset]) d21_10 rfl rfl ?_
    have hl := own_numLen y
    obtain ⟨N, eN⟩ : ∃ N, N = y.toInt.natAbs := ⟨_, rfl⟩
    rw [← eN] at hl e hb
    have en : (own_num y).length = (own_dig N).length + 0 := by rw [own_num, if_neg (show ¬ y < 0 from q), eN]; simp
    rw [e]
    have loop : ∀ (m i : Nat), 10 - i = m → 1 ≤ i → i ≤ 10 → i ≤ (own_dig N).length → Run l ({ frames := 0, cells := 0, slots := 0, locals := 0 } : Room) n0 (fun v h _ => v = some (.int (i32 (own_num y).length)) ∧ h0 = h) K h0 0 0 16 #[.val (.int (own_m N)), .val (.int (0 : Int32)), .val (.int (own_m (10 ^ i))), .val (.int (i32 i))] [] := by
      intro m
      induction m with
      | zero =>
        intro i hm h1 h10 hi
        obtain rfl : i = 10 := by omega
        refine r_iloadN C (pc' := 17) d21_16 rfl rfl ?_
        refine r_bipush C (pc' := 19) (v := (10)) d21_17 rfl rfl ?_
        refine r_icmp_ge_t C (pc' := 42) d21_19 (by decide) (by decide) (by decide) ?_
        refine r_bipush C (pc' := 44) (v := (10)) d21_42 rfl rfl ?_
        refine r_iloadN C (pc' := 45) d21_44 rfl rfl ?_
        refine r_iadd C (pc' := 46) d21_45 rfl ?_
        rw [show (10 : Int32) + (0 : Int32) = i32 (own_num y).length by rw [en, show (own_dig N).length = 10 by omega]; rfl]
        exact r_ireturn C d21_46 (by decide) (by decide) (Nat.zero_le _) (fun _ _ => ⟨rfl, rfl⟩)
      | succ m ih =>
        intro i hm h1 h10 hi
        have hlt : i < 10 := by omega
        have hp := own_pow9 hlt
        refine r_iloadN C (pc' := 17) d21_16 rfl rfl ?_
        refine r_bipush C (pc' := 19) (v := (10)) d21_17 rfl rfl ?_
        refine r_icmp_ge_f C (pc' := 22) d21_19 rfl ((i32_lt (b := 10) (by omega) (by decide)).mpr hlt) ?_
        refine r_iloadN C (pc' := 23) d21_22 rfl rfl ?_
        refine r_iloadN C (pc' := 24) d21_23 rfl rfl ?_
        refine r_icmp_le C (pt := 31) (pc' := 27) d21_24 (by decide) (by decide) rfl ?_ ?_
        · intro r
          have r' : ¬ N < 10 ^ i := fun z => r ((own_mlt (by omega) (by omega)).mpr z)
          refine r_bipush C (pc' := 33) (v := (10)) d21_31 rfl rfl ?_
          refine r_iloadN C (pc' := 34) d21_33 rfl rfl ?_
          refine r_imul C (pc' := 35) d21_34 rfl ?_
          refine r_istoreN C (pc' := 36) (Ls' := #[.val (.int (own_m N)), .val (.int (0 : Int32)), .val (.int ((10 : Int32) * (own_m (10 ^ i)))), .val (.int (i32 i))]) d21_35 rfl rfl ?_
          refine r_iinc C (pc' := 39) (v := (1)) (Ls' := #[.val (.int (own_m N)), .val (.int (0 : Int32)), .val (.int ((10 : Int32) * (own_m (10 ^ i)))), .val (.int ((i32 i) + (1 : Int32)))]) d21_36 rfl rfl rfl rfl ?_
          refine r_goto C (pc' := 16) d21_39 (by decide) (by decide) ?_
          rw [own_mstep, show i32 i + (1 : Int32) = i32 (i + 1) from i32_add i 1]
          have hd := own_dlen (i - 1) N
          rw [Nat.sub_add_cancel h1] at hd
          exact ih (i + 1) (by omega) (by omega) (by omega) (by omega)
        · intro r
          have r' : N < 10 ^ i := (own_mlt (by omega) (by omega)).mp r
          have hd := own_dlen (i - 1) N
          rw [Nat.sub_add_cancel h1] at hd
          refine r_iloadN C (pc' := 28) d21_27 rfl rfl ?_
          refine r_iloadN C (pc' := 29) d21_28 rfl rfl ?_
          refine r_iadd C (pc' := 30) d21_29 rfl ?_
          rw [show i32 i + (0 : Int32) = i32 (own_num y).length by rw [en, show (own_dig N).length = i by omega]; exact i32_add i 0]
          exact r_ireturn C d21_30 (by decide) (by decide) (Nat.zero_le _) (fun _ _ => ⟨rfl, rfl⟩)
    refine r_bipush C (pc' := 13) (v := (-10)) d21_11 rfl rfl ?_
    refine r_istoreN C (pc' := 14) (Ls' := #[.val (.int (own_m N)), .val (.int (0 : Int32)), .val (.int (-10 : Int32)), .unset]) d21_13 rfl rfl ?_
    refine r_iconst C (pc' := 15) (v := 1) d21_14 rfl rfl ?_
    refine r_istoreN C (pc' := 16) (Ls' := #[.val (.int (own_m N)), .val (.int (0 : Int32)), .val (.int (-10 : Int32)), .val (.int (1 : Int32))]) d21_15 rfl rfl ?_
    rw [own_m10]
    exact loop _ 1 rfl (by decide) (by decide) (own_digpos N)
set_option maxRecDepth 65536 in
set_option maxHeartbeats 4000000 in
theorem i_getChars (l : Launch) (Z : State) (a0 : Array Value) (hw : ∀ d ∈ tables_1, d.before a0 Z = true) (n0 : Nat) (h0 : Heap) (t1 t2 : Nat) (q1 q2 : ClassId) (dt : own_DT Z t1 t2 q1 q2) (ol : Od Z n0 h0) (y : Int32) (idx b : Nat) (k : ClassId) (vs : List Value) (A : AV Z h0 b k .byte vs (.int 0)) (hi : (own_num y).length ≤ idx) (hv : idx ≤ vs.length) (ge : n0 ≤ b) :
    Con l [] (⟨"java/lang/Integer", "getChars", "(II[B)I"⟩ : MethodName) jdk_33_method_12_code 7 (some .int) ({ frames := 0, cells := 0, slots := 0, locals := 0 } : Room) Z #[(.int y), (.int (i32 idx)), (.ref b)] h0 n0 (fun v h => (∃ u : Int32, v = some (.int u)) ∧ Keep h0 h [b] ∧ AV Z h b k .byte (vs.take (idx - (own_num y).length) ++ ((own_num y).map by8).map Value.int ++ vs.drop idx) (.int 0)) := by
  refine enter (Ls := #[.val (.int y), .val (.int (i32 idx)), .val (.ref b), .unset, .unset, .unset, .unset]) pn26 (fun m => by first | (simp [entryFrame, mkF, argsToLocals, Value.category]; done) | rfl) ?_
  intro K C
  refine r_iloadN C (pc' := 1) d23_0 rfl rfl ?_
  refine r_istore C (pc' := 3) (Ls' := #[.val (.int y), .val (.int (i32 idx)), .val (.ref b), .unset, .unset, .val (.int (i32 idx)), .unset]) d23_1 rfl rfl ?_
  refine r_iloadN C (pc' := 4) d23_3 rfl rfl ?_
  refine r_if_ge C (pt := 11) (pc' := 7) d23_4 (by decide) (by decide) rfl ?_ ?_
  · intro q
    obtain ⟨e, hb⟩ := own_mpos q
    refine r_iconst C (pc' := 12) (v := 0) d23_11 rfl rfl ?_
    refine r_istore C (pc' := 14) (Ls' := #[.val (.int y), .val (.int (i32 idx)), .val (.ref b), .unset, .unset, .val (.int (i32 idx)), .val (.int (0 : Int32))]) d23_12 rfl rfl ?_
    refine r_iload C (pc' := 16) d23_14 rfl rfl ?_
    refine r_if_ne_f C (pc' := 19) d23_16 rfl (by decide) ?_
    refine r_iloadN C (pc' := 20) d23_19 rfl rfl ?_
    refine r_ineg C (pc' := 21) d23_20 rfl ?_
    refine r_istoreN C (pc' := 22) (Ls' := #[.val (.int (-y)), .val (.int (i32 idx)), .val (.ref b), .unset, .unset, .val (.int (i32 idx)), .val (.int (0 : Int32))]) d23_21 rfl rfl ?_
    obtain ⟨N, eN⟩ : ∃ N, N = y.toInt.natAbs := ⟨_, rfl⟩
    rw [← eN] at e hb
    have en : own_num y =  own_dig N := by rw [own_num, if_neg (show ¬ y < 0 from q), eN]; rfl
    have hn : (own_dig N).length + 0 ≤ idx := by rw [en] at hi; exact hi
    rw [e]
    have loop : ∀ (m : Nat) (tl : List Nat) (p : Nat) (h : Heap) (L3 L4 : Slot), m ≤ 2147483648 → own_dig N = own_dig m ++ tl → p + tl.length = idx → Od Z n0 h → Keep h0 h [b] → AV Z h b k .byte (vs.take p ++ ((tl.map by8).map Value.int ++ vs.drop idx)) (.int 0) → (L3 = .unset ∨ ∃ u, L3 = .val (.int u)) → (L4 = .unset ∨ ∃ u, L4 = .val (.int u)) → Run l ({ frames := 0, cells := 0, slots := 0, locals := 0 } : Room) n0 (fun v h _ => (∃ u : Int32, v = some (.int u)) ∧ Keep h0 h [b] ∧ AV Z h b k .byte (vs.take (idx - (own_num y).length) ++ ((own_num y).map by8).map Value.int ++ vs.drop idx) (.int 0)) K h 0 0 22 #[.val (.int (own_m m)), .val (.int (i32 idx)), .val (.ref b), L3, L4, .val (.int (i32 p)), .val (.int (0 : Int32))] [] := by
      intro m
      induction m using Nat.strongRecOn with
      | ind m ih =>
        intro tl p h L3 L4 hm hd hp ol Kp A hL3 hL4
        have hlen : (own_dig N).length = (own_dig m).length + tl.length := by rw [hd, List.length_append]
        have hpos := own_digpos m
        obtain ⟨p1, rfl⟩ : ∃ p1, p = p1 + 1 := ⟨p - 1, by omega⟩
        refine r_iloadN C (pc' := 23) d23_22 rfl rfl ?_
        refine r_bipush C (pc' := 25) (v := (-100)) d23_23 rfl rfl ?_
        refine r_icmp_gt C (pt := 72) (pc' := 28) d23_25 (by decide) (by decide) rfl ?_ ?_
        · intro r
          have r' : m < 100 := (own_m100 hm).mp r
          refine r_aloadN C (pc' := 73) d23_72 rfl rfl rfl ?_
          refine r_iinc C (pc' := 76) (v := (-1)) (Ls' := #[.val (.int (own_m m)), .val (.int (i32 idx)), .val (.ref b), L3, L4, .val (.int ((i32 (p1 + 1)) + (-1 : Int32))), .val (.int (0 : Int32))]) d23_73 rfl rfl rfl rfl ?_
          rw [own_dec1]
          refine r_iload C (pc' := 78) d23_76 rfl rfl ?_
          refine r_getS C (pc' := 81) d23_78 rfl (w130 hw) Via.refl (dt.1.ext ol.2) ?_
          refine r_iloadN C (pc' := 82) d23_81 rfl rfl ?_
          refine r_ineg C (pc' := 83) d23_82 rfl ?_
          rw [own_mback]
          refine r_baloadV C (pc' := 84) (i := m) d23_83 rfl (dt.2.2.1.ext ol.2) rfl (own_onesAt (by omega)) ?_
          refine r_bastoreV C (pc' := 85) (i := p1) d23_84 rfl A rfl (by simp only [List.length_append, List.length_take, List.length_cons, List.length_map, List.length_drop]; omega) (fits_nar_byte _) ge ?_
          intro h1 W1 A1
          rw [own_bynar, own_setp _ _ _ _ (by omega)] at A1
          replace Kp := Kp.wr W1 (Or.inl (by simp))
          replace ol := ol.wr W1 ge
          refine r_iloadN C (pc' := 86) d23_85 rfl rfl ?_
          refine r_bipush C (pc' := 88) (v := (-9)) d23_86 rfl rfl ?_
          refine r_icmp_ge C (pt := 104) (pc' := 91) d23_88 (by decide) (by decide) rfl ?_ ?_
          · intro u
            have u' : m < 10 := Nat.lt_of_not_le (fun z => u ((own_m9 hm).mpr (by omega)))
            rw [show 48 + m % 10 = 48 + m by omega] at A1
            refine r_iload C (pc' := 106) d23_104 rfl rfl ?_
            refine r_if_eq_t C (pc' := 118) d23_106 (by decide) (by decide) (by decide) ?_
            refine r_iload C (pc' := 120) d23_118 rfl rfl ?_
            have el : own_num y = (48 + m) :: tl := by rw [en, hd, own_dig1 (by omega)]; rfl
            have eq' : idx - (own_num y).length = p1 := by rw [el]; simp only [List.length_cons]; omega
            exact r_ireturn C d23_120 (by decide) (by decide) (Nat.zero_le _) (fun _ _ => ⟨⟨_, rfl⟩, Kp, by rw [eq', el, List.append_assoc]; exact A1⟩)
          · intro u
            have u' : 9 < m := (own_m9 hm).mp u
            rw [own_dig2 (by omega) r'] at hlen
            simp only [List.length_cons, List.length_nil] at hlen
            obtain ⟨p2, rfl⟩ : ∃ p2, p1 = p2 + 1 := ⟨p1 - 1, by omega⟩
            refine r_aloadN C (pc' := 92) d23_91 rfl rfl rfl ?_
            refine r_iinc C (pc' := 95) (v := (-1)) (Ls' := #[.val (.int (own_m m)), .val (.int (i32 idx)), .val (.ref b), L3, L4, .val (.int ((i32 (p2 + 1)) + (-1 : Int32))), .val (.int (0 : Int32))]) d23_92 rfl rfl rfl rfl ?_
            rw [own_dec1]
            refine r_iload C (pc' := 97) d23_95 rfl rfl ?_
            refine r_getS C (pc' := 100) d23_97 rfl (w216 hw) Via.refl (dt.2.1.ext ol.2) ?_
            refine r_iloadN C (pc' := 101) d23_100 rfl rfl ?_
            refine r_ineg C (pc' := 102) d23_101 rfl ?_
            rw [own_mback]
            refine r_baloadV C (pc' := 103) (i := m) d23_102 rfl (dt.2.2.2.ext ol.2) rfl (own_tensAt (by omega)) ?_
            refine r_bastoreV C (pc' := 104) (i := p2) d23_103 rfl A1 rfl (by simp only [List.length_append, List.length_take, List.length_cons, List.length_map, List.length_drop]; omega) (fits_nar_byte _) ge ?_
            intro h2 W2 A2
            rw [own_bynar, own_setp _ _ _ _ (by omega)] at A2
            replace Kp := Kp.wr W2 (Or.inl (by simp))
            replace ol := ol.wr W2 ge
            refine r_iload C (pc' := 106) d23_104 rfl rfl ?_
            refine r_if_eq_t C (pc' := 118) d23_106 (by decide) (by decide) (by decide) ?_
            refine r_iload C (pc' := 120) d23_118 rfl rfl ?_
            have el : own_num y = (48 + m / 10) :: (48 + m % 10) :: tl := by rw [en, hd, own_dig2 (by omega) r']; rfl
            have eq' : idx - (own_num y).length = p2 := by rw [el]; simp only [List.length_cons]; omega
            exact r_ireturn C d23_120 (by decide) (by decide) (Nat.zero_le _) (fun _ _ => ⟨⟨_, rfl⟩, Kp, by rw [eq', el, List.append_assoc]; exact A2⟩)
        · intro r
          have r' : 100 ≤ m := Nat.le_of_not_lt (fun z => r ((own_m100 hm).mpr z))
          refine r_iloadN C (pc' := 29) d23_28 rfl rfl ?_
          refine r_bipush C (pc' := 31) (v := (100)) d23_29 rfl rfl ?_
          refine r_idiv C (pc' := 32) d23_31 rfl (by decide) ?_
          rw [own_mdiv hm]
          refine r_istoreN C (pc' := 33) (Ls' := #[.val (.int (own_m m)), .val (.int (i32 idx)), .val (.ref b), .val (.int (own_m (m / 100))), L4, .val (.int (i32 (p1 + 1))), .val (.int (0 : Int32))]) d23_32 rfl (by rcases hL3 with rfl | ⟨u, rfl⟩ <;> rfl) ?_
          refine r_iloadN C (pc' := 34) d23_33 rfl rfl ?_
          refine r_bipush C (pc' := 36) (v := (100)) d23_34 rfl rfl ?_
          refine r_imul C (pc' := 37) d23_36 rfl ?_
          refine r_iloadN C (pc' := 38) d23_37 rfl rfl ?_
          refine r_isub C (pc' := 39) d23_38 rfl ?_
          rw [own_mrem hm]
          refine r_istore C (pc' := 41) (Ls' := #[.val (.int (own_m m)), .val (.int (i32 idx)), .val (.ref b), .val (.int (own_m (m / 100))), .val (.int (i32 (m % 100))), .val (.int (i32 (p1 + 1))), .val (.int (0 : Int32))]) d23_39 rfl (by rcases hL4 with rfl | ⟨u, rfl⟩ <;> rfl) ?_
          have hdm := own_dig3 r'
          rw [hdm] at hlen hd
          rw [List.append_assoc] at hd
          simp only [List.length_append, List.length_cons, List.length_nil] at hlen
          have hpos2 := own_digpos (m / 100)
          obtain ⟨p2, rfl⟩ : ∃ p2, p1 = p2 + 1 := ⟨p1 - 1, by omega⟩
          refine r_iloadN C (pc' := 42) d23_41 rfl rfl ?_
          refine r_istoreN C (pc' := 43) (Ls' := #[.val (.int (own_m (m / 100))), .val (.int (i32 idx)), .val (.ref b), .val (.int (own_m (m / 100))), .val (.int (i32 (m % 100))), .val (.int (i32 (p2 + 1 + 1))), .val (.int (0 : Int32))]) d23_42 rfl rfl ?_
          refine r_aloadN C (pc' := 44) d23_43 rfl rfl rfl ?_
          refine r_iinc C (pc' := 47) (v := (-1)) (Ls' := #[.val (.int (own_m (m / 100))), .val (.int (i32 idx)), .val (.ref b), .val (.int (own_m (m / 100))), .val (.int (i32 (m % 100))), .val (.int ((i32 (p2 + 1 + 1)) + (-1 : Int32))), .val (.int (0 : Int32))]) d23_44 rfl rfl rfl rfl ?_
          rw [own_dec1]
          refine r_iload C (pc' := 49) d23_47 rfl rfl ?_
          refine r_getS C (pc' := 52) d23_49 rfl (w130 hw) Via.refl (dt.1.ext ol.2) ?_
          refine r_iload C (pc' := 54) d23_52 rfl rfl ?_
          refine r_baloadV C (pc' := 55) (i := (m % 100)) d23_54 rfl (dt.2.2.1.ext ol.2) rfl (own_onesAt (by omega)) ?_
          refine r_bastoreV C (pc' := 56) (i := (p2 + 1)) d23_55 rfl A rfl (by simp only [List.length_append, List.length_take, List.length_cons, List.length_map, List.length_drop]; omega) (fits_nar_byte _) ge ?_
          intro h1 W1 A1
          rw [own_bynar, own_setp _ _ _ _ (by omega)] at A1
          replace Kp := Kp.wr W1 (Or.inl (by simp))
          replace ol := ol.wr W1 ge
          refine r_aloadN C (pc' := 57) d23_56 rfl rfl rfl ?_
          refine r_iinc C (pc' := 60) (v := (-1)) (Ls' := #[.val (.int (own_m (m / 100))), .val (.int (i32 idx)), .val (.ref b), .val (.int (own_m (m / 100))), .val (.int (i32 (m % 100))), .val (.int ((i32 (p2 + 1)) + (-1 : Int32))), .val (.int (0 : Int32))]) d23_57 rfl rfl rfl rfl ?_
          rw [own_dec1]
          refine r_iload C (pc' := 62) d23_60 rfl rfl ?_
          refine r_getS C (pc' := 65) d23_62 rfl (w216 hw) Via.refl (dt.2.1.ext ol.2) ?_
          refine r_iload C (pc' := 67) d23_65 rfl rfl ?_
          refine r_baloadV C (pc' := 68) (i := (m % 100)) d23_67 rfl (dt.2.2.2.ext ol.2) rfl (own_tensAt (by omega)) ?_
          refine r_bastoreV C (pc' := 69) (i := p2) d23_68 rfl A1 rfl (by simp only [List.length_append, List.length_take, List.length_cons, List.length_map, List.length_drop]; omega) (fits_nar_byte _) ge ?_
          intro h2 W2 A2
          rw [own_bynar, own_setp _ _ _ _ (by omega)] at A2
          replace Kp := Kp.wr W2 (Or.inl (by simp))
          replace ol := ol.wr W2 ge
          refine r_goto C (pc' := 22) d23_69 (by decide) (by decide) ?_
          exact ih (m / 100) (by omega) ((48 + m % 100 / 10) :: (48 + m % 100 % 10) :: tl) p2 h2 _ _ (by omega) hd (by simp only [List.length_cons]; omega) ol Kp A2 (Or.inr ⟨_, rfl⟩) (Or.inr ⟨_, rfl⟩)
    exact loop N [] idx h0 _ _ (by omega) (by simp) rfl ol (Keep.refl _ _) (A.cast (by simp)) (Or.inl rfl) (Or.inl rfl)
  · intro q
    obtain ⟨e, hb, -⟩ := own_mneg q
    refine r_iconst C (pc' := 8) (v := 1) d23_7 rfl rfl ?_
    refine r_goto C (pc' := 12) d23_8 (by decide) (by decide) ?_
    refine r_istore C (pc' := 14) (Ls' := #[.val (.int y), .val (.int (i32 idx)), .val (.ref b), .unset, .unset, .val (.int (i32 idx)), .val (.int (1 : Int32))]) d23_12 rfl rfl ?_
    refine r_iload C (pc' := 16) d23_14 rfl rfl ?_
    refine r_if_ne_t C (pc' := 22) d23_16 (by decide) (by decide) (by decide) ?_
    obtain ⟨N, eN⟩ : ∃ N, N = y.toInt.natAbs := ⟨_, rfl⟩
    rw [← eN] at e hb
    have en : own_num y = 45 :: own_dig N := by rw [own_num, if_pos (show  y < 0 from q), eN]; rfl
    have hn : (own_dig N).length + 1 ≤ idx := by rw [en] at hi; exact hi
    rw [show Slot.val (.int y) = Slot.val (.int (own_m N)) from congrArg (fun z => Slot.val (.int z)) e]
    have loop : ∀ (m : Nat) (tl : List Nat) (p : Nat) (h : Heap) (L3 L4 : Slot), m ≤ 2147483648 → own_dig N = own_dig m ++ tl → p + tl.length = idx → Od Z n0 h → Keep h0 h [b] → AV Z h b k .byte (vs.take p ++ ((tl.map by8).map Value.int ++ vs.drop idx)) (.int 0) → (L3 = .unset ∨ ∃ u, L3 = .val (.int u)) → (L4 = .unset ∨ ∃ u, L4 = .val (.int u)) → Run l ({ frames := 0, cells := 0, slots := 0, locals := 0 } : Room) n0 (fun v h _ => (∃ u : Int32, v = some (.int u)) ∧ Keep h0 h [b] ∧ AV Z h b k .byte (vs.take (idx - (own_num y).length) ++ ((own_num y).map by8).map Value.int ++ vs.drop idx) (.int 0)) K h 0 0 22 #[.val (.int (own_m m)), .val (.int (i32 idx)), .val (.ref b), L3, L4, .val (.int (i32 p)), .val (.int (1 : Int32))] [] := by
      intro m
      induction m using Nat.strongRecOn with
      | ind m ih =>
        intro tl p h L3 L4 hm hd hp ol Kp A hL3 hL4
        have hlen : (own_dig N).length = (own_dig m).length + tl.length := by rw [hd, List.length_append]
        have hpos := own_digpos m
        obtain ⟨p1, rfl⟩ : ∃ p1, p = p1 + 1 := ⟨p - 1, by omega⟩
        refine r_iloadN C (pc' := 23) d23_22 rfl rfl ?_
        refine r_bipush C (pc' := 25) (v := (-100)) d23_23 rfl rfl ?_
        refine r_icmp_gt C (pt := 72) (pc' := 28) d23_25 (by decide) (by decide) rfl ?_ ?_
        · intro r
          have r' : m < 100 := (own_m100 hm).mp r
          refine r_aloadN C (pc' := 73) d23_72 rfl rfl rfl ?_
          refine r_iinc C (pc' := 76) (v := (-1)) (Ls' := #[.val (.int (own_m m)), .val (.int (i32 idx)), .val (.ref b), L3, L4, .val (.int ((i32 (p1 + 1)) + (-1 : Int32))), .val (.int (1 : Int32))]) d23_73 rfl rfl rfl rfl ?_
          rw [own_dec1]
          refine r_iload C (pc' := 78) d23_76 rfl rfl ?_
          refine r_getS C (pc' := 81) d23_78 rfl (w130 hw) Via.refl (dt.1.ext ol.2) ?_
          refine r_iloadN C (pc' := 82) d23_81 rfl rfl ?_
          refine r_ineg C (pc' := 83) d23_82 rfl ?_
          rw [own_mback]
          refine r_baloadV C (pc' := 84) (i := m) d23_83 rfl (dt.2.2.1.ext ol.2) rfl (own_onesAt (by omega)) ?_
          refine r_bastoreV C (pc' := 85) (i := p1) d23_84 rfl A rfl (by simp only [List.length_append, List.length_take, List.length_cons, List.length_map, List.length_drop]; omega) (fits_nar_byte _) ge ?_
          intro h1 W1 A1
          rw [own_bynar, own_setp _ _ _ _ (by omega)] at A1
          replace Kp := Kp.wr W1 (Or.inl (by simp))
          replace ol := ol.wr W1 ge
          refine r_iloadN C (pc' := 86) d23_85 rfl rfl ?_
          refine r_bipush C (pc' := 88) (v := (-9)) d23_86 rfl rfl ?_
          refine r_icmp_ge C (pt := 104) (pc' := 91) d23_88 (by decide) (by decide) rfl ?_ ?_
          · intro u
            have u' : m < 10 := Nat.lt_of_not_le (fun z => u ((own_m9 hm).mpr (by omega)))
            rw [show 48 + m % 10 = 48 + m by omega] at A1
            obtain ⟨p9, rfl⟩ : ∃ p9, p1 = p9 + 1 := ⟨p1 - 1, by omega⟩
            refine r_iload C (pc' := 106) d23_104 rfl rfl ?_
            refine r_if_eq_f C (pc' := 109) d23_106 rfl (by decide) ?_
            refine r_aloadN C (pc' := 110) d23_109 rfl rfl rfl ?_
            refine r_iinc C (pc' := 113) (v := (-1)) (Ls' := #[.val (.int (own_m m)), .val (.int (i32 idx)), .val (.ref b), L3, L4, .val (.int ((i32 (p9 + 1)) + (-1 : Int32))), .val (.int (1 : Int32))]) d23_110 rfl rfl rfl rfl ?_
            rw [own_dec1]
            refine r_iload C (pc' := 115) d23_113 rfl rfl ?_
            refine r_bipush C (pc' := 117) (v := (45)) d23_115 rfl rfl ?_
            refine r_bastoreV C (pc' := 118) (i := p9) d23_117 rfl A1 rfl (by simp only [List.length_append, List.length_take, List.length_cons, List.length_map, List.length_drop]; omega) (fits_nar_byte _) ge ?_
            intro h9 W9 A9
            rw [own_setp _ _ _ _ (by omega)] at A9
            replace Kp := Kp.wr W9 (Or.inl (by simp))
            refine r_iload C (pc' := 120) d23_118 rfl rfl ?_
            have el : own_num y = (45) :: (48 + m) :: tl := by rw [en, hd, own_dig1 (by omega)]; rfl
            have eq' : idx - (own_num y).length = p9 := by rw [el]; simp only [List.length_cons]; omega
            exact r_ireturn C d23_120 (by decide) (by decide) (Nat.zero_le _) (fun _ _ => ⟨⟨_, rfl⟩, Kp, by rw [eq', el, List.append_assoc]; exact A9⟩)
          · intro u
            have u' : 9 < m := (own_m9 hm).mp u
            rw [own_dig2 (by omega) r'] at hlen
            simp only [List.length_cons, List.length_nil] at hlen
            obtain ⟨p2, rfl⟩ : ∃ p2, p1 = p2 + 1 := ⟨p1 - 1, by omega⟩
            refine r_aloadN C (pc' := 92) d23_91 rfl rfl rfl ?_
            refine r_iinc C (pc' := 95) (v := (-1)) (Ls' := #[.val (.int (own_m m)), .val (.int (i32 idx)), .val (.ref b), L3, L4, .val (.int ((i32 (p2 + 1)) + (-1 : Int32))), .val (.int (1 : Int32))]) d23_92 rfl rfl rfl rfl ?_
            rw [own_dec1]
            refine r_iload C (pc' := 97) d23_95 rfl rfl ?_
            refine r_getS C (pc' := 100) d23_97 rfl (w216 hw) Via.refl (dt.2.1.ext ol.2) ?_
            refine r_iloadN C (pc' := 101) d23_100 rfl rfl ?_
            refine r_ineg C (pc' := 102) d23_101 rfl ?_
            rw [own_mback]
            refine r_baloadV C (pc' := 103) (i := m) d23_102 rfl (dt.2.2.2.ext ol.2) rfl (own_tensAt (by omega)) ?_
            refine r_bastoreV C (pc' := 104) (i := p2) d23_103 rfl A1 rfl (by simp only [List.length_append, List.length_take, List.length_cons, List.length_map, List.length_drop]; omega) (fits_nar_byte _) ge ?_
            intro h2 W2 A2
            rw [own_bynar, own_setp _ _ _ _ (by omega)] at A2
            replace Kp := Kp.wr W2 (Or.inl (by simp))
            replace ol := ol.wr W2 ge
            obtain ⟨p9, rfl⟩ : ∃ p9, p2 = p9 + 1 := ⟨p2 - 1, by omega⟩
            refine r_iload C (pc' := 106) d23_104 rfl rfl ?_
            refine r_if_eq_f C (pc' := 109) d23_106 rfl (by decide) ?_
            refine r_aloadN C (pc' := 110) d23_109 rfl rfl rfl ?_
            refine r_iinc C (pc' := 113) (v := (-1)) (Ls' := #[.val (.int (own_m m)), .val (.int (i32 idx)), .val (.ref b), L3, L4, .val (.int ((i32 (p9 + 1)) + (-1 : Int32))), .val (.int (1 : Int32))]) d23_110 rfl rfl rfl rfl ?_
            rw [own_dec1]
            refine r_iload C (pc' := 115) d23_113 rfl rfl ?_
            refine r_bipush C (pc' := 117) (v := (45)) d23_115 rfl rfl ?_
            refine r_bastoreV C (pc' := 118) (i := p9) d23_117 rfl A2 rfl (by simp only [List.length_append, List.length_take, List.length_cons, List.length_map, List.length_drop]; omega) (fits_nar_byte _) ge ?_
            intro h9 W9 A9
            rw [own_setp _ _ _ _ (by omega)] at A9
            replace Kp := Kp.wr W9 (Or.inl (by simp))
            refine r_iload C (pc' := 120) d23_118 rfl rfl ?_
            have el : own_num y = (45) :: (48 + m / 10) :: (48 + m % 10) :: tl := by rw [en, hd, own_dig2 (by omega) r']; rfl
            have eq' : idx - (own_num y).length = p9 := by rw [el]; simp only [List.length_cons]; omega
            exact r_ireturn C d23_120 (by decide) (by decide) (Nat.zero_le _) (fun _ _ => ⟨⟨_, rfl⟩, Kp, by rw [eq', el, List.append_assoc]; exact A9⟩)
        · intro r
          have r' : 100 ≤ m := Nat.le_of_not_lt (fun z => r ((own_m100 hm).mpr z))
          refine r_iloadN C (pc' := 29) d23_28 rfl rfl ?_
          refine r_bipush C (pc' := 31) (v := (100)) d23_29 rfl rfl ?_
          refine r_idiv C (pc' := 32) d23_31 rfl (by decide) ?_
          rw [own_mdiv hm]
          refine r_istoreN C (pc' := 33) (Ls' := #[.val (.int (own_m m)), .val (.int (i32 idx)), .val (.ref b), .val (.int (own_m (m / 100))), L4, .val (.int (i32 (p1 + 1))), .val (.int (1 : Int32))]) d23_32 rfl (by rcases hL3 with rfl | ⟨u, rfl⟩ <;> rfl) ?_
          refine r_iloadN C (pc' := 34) d23_33 rfl rfl ?_
          refine r_bipush C (pc' := 36) (v := (100)) d23_34 rfl rfl ?_
          refine r_imul C (pc' := 37) d23_36 rfl ?_
          refine r_iloadN C (pc' := 38) d23_37 rfl rfl ?_
          refine r_isub C (pc' := 39) d23_38 rfl ?_
          rw [own_mrem hm]
          refine r_istore C (pc' := 41) (Ls' := #[.val (.int (own_m m)), .val (.int (i32 idx)), .val (.ref b), .val (.int (own_m (m / 100))), .val (.int (i32 (m % 100))), .val (.int (i32 (p1 + 1))), .val (.int (1 : Int32))]) d23_39 rfl (by rcases hL4 with rfl | ⟨u, rfl⟩ <;> rfl) ?_
          have hdm := own_dig3 r'
          rw [hdm] at hlen hd
          rw [List.append_assoc] at hd
          simp only [List.length_append, List.length_cons, List.length_nil] at hlen
          have hpos2 := own_digpos (m / 100)
          obtain ⟨p2, rfl⟩ : ∃ p2, p1 = p2 + 1 := ⟨p1 - 1, by omega⟩
          refine r_iloadN C (pc' := 42) d23_41 rfl rfl ?_
          refine r_istoreN C (pc' := 43) (Ls' := #[.val (.int (own_m (m / 100))), .val (.int (i32 idx)), .val (.ref b), .val (.int (own_m (m / 100))), .val (.int (i32 (m % 100))), .val (.int (i32 (p2 + 1 + 1))), .val (.int (1 : Int32))]) d23_42 rfl rfl ?_
          refine r_aloadN C (pc' := 44) d23_43 rfl rfl rfl ?_
          refine r_iinc C (pc' := 47) (v := (-1)) (Ls' := #[.val (.int (own_m (m / 100))), .val (.int (i32 idx)), .val (.ref b), .val (.int (own_m (m / 100))), .val (.int (i32 (m % 100))), .val (.int ((i32 (p2 + 1 + 1)) + (-1 : Int32))), .val (.int (1 : Int32))]) d23_44 rfl rfl rfl rfl ?_
          rw [own_dec1]
          refine r_iload C (pc' := 49) d23_47 rfl rfl ?_
          refine r_getS C (pc' := 52) d23_49 rfl (w130 hw) Via.refl (dt.1.ext ol.2) ?_
          refine r_iload C (pc' := 54) d23_52 rfl rfl ?_
          refine r_baloadV C (pc' := 55) (i := (m % 100)) d23_54 rfl (dt.2.2.1.ext ol.2) rfl (own_onesAt (by omega)) ?_
          refine r_bastoreV C (pc' := 56) (i := (p2 + 1)) d23_55 rfl A rfl (by simp only [List.length_append, List.length_take, List.length_cons, List.length_map, List.length_drop]; omega) (fits_nar_byte _) ge ?_
          intro h1 W1 A1
          rw [own_bynar, own_setp _ _ _ _ (by omega)] at A1
          replace Kp := Kp.wr W1 (Or.inl (by simp))
          replace ol := ol.wr W1 ge
          refine r_aloadN C (pc' := 57) d23_56 rfl rfl rfl ?_
          refine r_iinc C (pc' := 60) (v := (-1)) (Ls' := #[.val (.int (own_m (m / 100))), .val (.int (i32 idx)), .val (.ref b), .val (.int (own_m (m / 100))), .val (.int (i32 (m % 100))), .val (.int ((i32 (p2 + 1)) + (-1 : Int32))), .val (.int (1 : Int32))]) d23_57 rfl rfl rfl rfl ?_
          rw [own_dec1]
          refine r_iload C (pc' := 62) d23_60 rfl rfl ?_
          refine r_getS C (pc' := 65) d23_62 rfl (w216 hw) Via.refl (dt.2.1.ext ol.2) ?_
          refine r_iload C (pc' := 67) d23_65 rfl rfl ?_
          refine r_baloadV C (pc' := 68) (i := (m % 100)) d23_67 rfl (dt.2.2.2.ext ol.2) rfl (own_tensAt (by omega)) ?_
          refine r_bastoreV C (pc' := 69) (i := p2) d23_68 rfl A1 rfl (by simp only [List.length_append, List.length_take, List.length_cons, List.length_map, List.length_drop]; omega) (fits_nar_byte _) ge ?_
          intro h2 W2 A2
          rw [own_bynar, own_setp _ _ _ _ (by omega)] at A2
          replace Kp := Kp.wr W2 (Or.inl (by simp))
          replace ol := ol.wr W2 ge
          refine r_goto C (pc' := 22) d23_69 (by decide) (by decide) ?_
          exact ih (m / 100) (by omega) ((48 + m % 100 / 10) :: (48 + m % 100 % 10) :: tl) p2 h2 _ _ (by omega) hd (by simp only [List.length_cons]; omega) ol Kp A2 (Or.inr ⟨_, rfl⟩) (Or.inr ⟨_, rfl⟩)
    exact loop N [] idx h0 _ _ (by omega) (by simp) rfl ol (Keep.refl _ _) (A.cast (by simp)) (Or.inl rfl) (Or.inl rfl)
set_option maxRecDepth 65536 in
set_option maxHeartbeats 4000000 in
theorem i_asbappI (l : Launch) (Z : State) (a0 : Array Value) (hw : ∀ d ∈ tables_1, d.before a0 Z = true) (n0 : Nat) (h0 : Heap) (cc : Int32) (fv : Value) (ss : own_SS Z cc fv) (ol : Od Z n0 h0) (t1 t2 : Nat) (q1 q2 : ClassId) (dt : own_DT Z t1 t2 q1 q2) (a b : Nat) (k : ClassId) (vs : List Value) (cs : List Nat) (B : own_SN Z h0 a b k vs cs) (y : Int32) (hn0 : n0 ≤ h0.size) (hn : cs.length + (own_num y).length ≤ 34) (hg : cs.length + (own_num y).length ≤ 2 * vs.length + 2) (ge : n0 ≤ a) (geb : n0 ≤ b) :
    Con l [] (⟨"java/lang/AbstractStringBuilder", "append", "(I)Ljava/lang/AbstractStringBuilder;"⟩ : MethodName) jdk_68_method_32_code 4 (some (.object "java/lang/AbstractStringBuilder")) ({ frames := 4, cells := 1, slots := 34, locals := 69 } : Room) Z #[(.ref a), (.int y)] h0 n0 (fun v h => v = some (.ref a) ∧ Keep h0 h [a, b] ∧ ∃ (b' : Nat) (k' : ClassId) (ws : List Value), own_SN Z h a b' k' ws (cs ++ own_num y) ∧ (b' = b ∨ h0.size ≤ b')) := by
  refine enter (Ls := #[.val (.ref a), .val (.int y), .unset, .unset]) pn27 (fun m => by first | (simp [entryFrame, mkF, argsToLocals, Value.category]; done) | rfl) ?_
  intro K C
  have lb0 := B.2.2.2.2.1.lt
  refine r_aloadN C (pc' := 1) d20_0 rfl rfl rfl ?_
  refine r_getF C (pc' := 4) d20_1 rfl (w80 hw) Via.refl B.2.2.2.1 ?_
  refine r_istoreN C (pc' := 5) (Ls' := #[.val (.ref a), .val (.int y), .val (.int (i32 cs.length)), .unset]) d20_4 rfl rfl ?_
  refine r_iloadN C (pc' := 6) d20_5 rfl rfl ?_
  refine r_iloadN C (pc' := 7) d20_6 rfl rfl ?_
  refine r_callS C (pc' := 10) (argsL := [.int y]) (i_size l Z a0 hw n0 h0 y) d20_7 rfl (w118 hw) (w119 hw) (w120 hw) (w121 hw) (by decide) pd4 (st := [.int (i32 cs.length)]) rfl rfl rfl (W := 1) (Nat.le_of_eq rfl) (by decide) (by decide) (by decide) (by decide) (cells' := 0) (slots' := 0) rfl rfl ?_
  rintro _ _ ⟨rfl, rfl⟩
  show Run _ _ _ _ _ _ _ _ 10 #[.val (.ref a), .val (.int y), .val (.int (i32 cs.length)), .unset] [.int (i32 (own_num y).length), .int (i32 cs.length)]
  refine r_iadd C (pc' := 11) d20_10 rfl ?_
  rw [i32_add]
  refine r_istoreN C (pc' := 12) (Ls' := #[.val (.ref a), .val (.int y), .val (.int (i32 cs.length)), .val (.int (i32 (cs.length + (own_num y).length)))]) d20_11 rfl rfl ?_
  refine r_aloadN C (pc' := 13) d20_12 rfl rfl rfl ?_
  refine r_iloadN C (pc' := 14) d20_13 rfl rfl ?_
  refine r_callPX C (pc' := 17) (argsL := [.int (i32 (cs.length + (own_num y).length))]) (n_ensure l Z a0 hw n0 _ a b k vs cs B hn0 ge _ hn hg) B.1 d20_14 rfl (w82 hw) (w83 hw) (w85 hw) (w84 hw) (w52 hw) (w86 hw) (by decide) pd1 (st := []) rfl rfl rfl (W := 0) (Nat.le_of_eq rfl) (by decide) (by decide) (by decide) (by decide) (cells' := 1) (slots' := 34) rfl rfl ?_
  rintro _ h1 ⟨rfl, K1, b', k', vs', B', hle, hb'⟩
  show Run _ _ _ _ _ h1 _ _ 17 #[.val (.ref a), .val (.int y), .val (.int (i32 cs.length)), .val (.int (i32 (cs.length + (own_num y).length)))] []
  have x1 := K1.1
  replace ol := ol.keep K1 (allS ge all0)
  clear B
  refine r_aloadN C (pc' := 18) d20_17 rfl rfl rfl ?_
  refine r_callV C (pc' := 21) (argsL := []) (n_asbL1 l Z a0 hw n0 _ cc fv ss ol a b' k' vs' cs B') B'.1 d20_18 rfl (w122 hw) (w123 hw) (nfSel (z := ({ cls := "java/lang/AbstractStringBuilder", name := "isLatin1", desc := "()Z" } : Jvm.MethodName)) (w125 hw)) (w125 hw) (w124 hw) (w52 hw) (w126 hw) (by decide) pd14 (st := []) rfl rfl rfl (W := 0) (Nat.le_of_eq rfl) (by decide) (by decide) (by decide) (by decide) (cells' := 1) (slots' := 34) rfl rfl ?_
  rintro _ _ ⟨rfl, rfl⟩
  show Run _ _ _ _ _ _ _ _ 21 #[.val (.ref a), .val (.int y), .val (.int (i32 cs.length)), .val (.int (i32 (cs.length + (own_num y).length)))] [.int (1 : Int32)]
  refine r_if_eq_f C (pc' := 24) d20_21 rfl (by decide) ?_
  refine r_iloadN C (pc' := 25) d20_24 rfl rfl ?_
  refine r_iloadN C (pc' := 26) d20_25 rfl rfl ?_
  refine r_aloadN C (pc' := 27) d20_26 rfl rfl rfl ?_
  refine r_getF C (pc' := 30) d20_27 rfl (w56 hw) Via.refl B'.2.1 ?_
  refine r_callS C (pc' := 33) (argsL := [.int y, .int (i32 (cs.length + (own_num y).length)), .ref b']) (i_getChars l Z a0 hw n0 _ t1 t2 q1 q2 dt ol y (cs.length + (own_num y).length) b' k' vs' B'.2.2.2.2.1 (by omega) hle (by omega)) d20_30 rfl (w127 hw) (w128 hw) (w120 hw) (w129 hw) (by decide) pd17 (st := []) rfl rfl rfl (W := 0) (Nat.le_of_eq rfl) (by decide) (by decide) (by decide) (by decide) (cells' := 1) (slots' := 34) rfl rfl ?_
  rintro _ h2 ⟨⟨u, rfl⟩, K2, A1⟩
  show Run _ _ _ _ _ h2 _ _ 33 #[.val (.ref a), .val (.int y), .val (.int (i32 cs.length)), .val (.int (i32 (cs.length + (own_num y).length)))] [.int u]
  rw [Nat.add_sub_cancel] at A1
  refine r_pop C (pc' := 34) d20_33 rfl rfl ?_
  refine r_goto C (pc' := 48) d20_34 (by decide) (by decide) ?_
  refine r_aloadN C (pc' := 49) d20_48 rfl rfl rfl ?_
  refine r_iloadN C (pc' := 50) d20_49 rfl rfl ?_
  obtain ⟨E, Fv, Fc, Fn, A, e1, e2, e3, nab, Eb⟩ := B'
  replace E := E.keep K2
  replace Eb := Eb.keep K2
  replace Fv := Fv.keep K2 (ninS (nn nab) nin0)
  replace Fc := Fc.keep K2 (ninS (nn nab) nin0)
  replace Fn := Fn.keep K2 (ninS (nn nab) nin0)
  refine r_putF C (pc' := 53) d20_50 rfl (w80 hw) Via.refl Fn E (Or.inl (w81 hw)) (w43 hw) (ty := .int) (by decide) rfl rfl ge ?_
  intro h3 W3
  replace Fv := Fv.other W3 (Or.inr (sn4 (Z := Z) hw))
  replace Fc := Fc.other W3 (Or.inr (sn5 (Z := Z) hw))
  replace Fn := Fn.same W3
  replace E := E.wr W3
  replace A1 := A1.other W3 (nn (Ne.symm nab))
  replace Eb := Eb.wr W3
  refine r_aloadN C (pc' := 54) d20_53 rfl rfl rfl ?_
  have hlen : (vs'.take cs.length ++ ((own_num y).map by8).map Value.int ++ vs'.drop (cs.length + (own_num y).length)).length = vs'.length := by simp only [List.length_append, List.length_take, List.length_drop, List.length_map]; omega
  have htk : (vs'.take cs.length ++ ((own_num y).map by8).map Value.int ++ vs'.drop (cs.length + (own_num y).length)).take (cs ++ own_num y).length = ((cs ++ own_num y).map by8).map Value.int := by
    have := own_sbtake (vs := vs') (ds := ((own_num y).map by8).map Value.int) (n := cs.length) (by rw [own_blen]; omega)
    rw [own_blen] at this; rw [List.length_append, this, e2, List.map_append, List.map_append]
  have K12 : Keep h0 h2 [a, b] := ((Keep.refl h0 [a, b]).trans K1 (by simp)).trans K2 (allS (by rcases hb' with rfl | z; exact Or.inl (by simp); exact Or.inr z) all0)
  exact r_areturn C d20_54 rfl rfl (by decide) (by decide) (Nat.zero_le _) (fun _ _ => ⟨rfl, K12.wr W3 (Or.inl (by simp)), b', k', _, ⟨E, Fv, Fc, by rw [List.length_append]; exact Fn, A1, by rw [hlen]; exact e1, htk, by rw [hlen, List.length_append]; omega, nab, Eb⟩, hb'⟩)
set_option maxRecDepth 65536 in
set_option maxHeartbeats 4000000 in
theorem i_sbappI (l : Launch) (Z : State) (a0 : Array Value) (hw : ∀ d ∈ tables_1, d.before a0 Z = true) (n0 : Nat) (h0 : Heap) (cc : Int32) (fv : Value) (ss : own_SS Z cc fv) (ol : Od Z n0 h0) (t1 t2 : Nat) (q1 q2 : ClassId) (dt : own_DT Z t1 t2 q1 q2) (a b : Nat) (k : ClassId) (vs : List Value) (cs : List Nat) (B : own_SN Z h0 a b k vs cs) (y : Int32) (hn0 : n0 ≤ h0.size) (hn : cs.length + (own_num y).length ≤ 34) (hg : cs.length + (own_num y).length ≤ 2 * vs.length + 2) (ge : n0 ≤ a) (geb : n0 ≤ b) :
    Con l [] (⟨"java/lang/StringBuilder", "append", "(I)Ljava/lang/StringBuilder;"⟩ : MethodName) jdk_67_method_15_code 2 (some (.object "java/lang/StringBuilder")) ({ frames := 5, cells := 1, slots := 34, locals := 84 } : Room) Z #[(.ref a), (.int y)] h0 n0 (fun v h => v = some (.ref a) ∧ Keep h0 h [a, b] ∧ ∃ (b' : Nat) (k' : ClassId) (ws : List Value), own_SN Z h a b' k' ws (cs ++ own_num y) ∧ (b' = b ∨ h0.size ≤ b')) := by
  refine enter (Ls := #[.val (.ref a), .val (.int y)]) pn28 (fun m => by first | (simp [entryFrame, mkF, argsToLocals, Value.category]; done) | rfl) ?_
  intro K C
  refine r_aloadN C (pc' := 1) d19_0 rfl rfl rfl ?_
  refine r_iloadN C (pc' := 2) d19_1 rfl rfl ?_
  refine r_callX C (pc' := 5) (argsL := [.int y]) (i_asbappI l Z a0 hw n0 h0 cc fv ss ol t1 t2 q1 q2 dt a b k vs cs B y hn0 hn hg ge geb) (Ins.of_exa B.1 (w51 hw)) d19_2 rfl (w114 hw) (w115 hw) (nf_cls (y' := ({ cls := "java/lang/AbstractStringBuilder", name := "ensureCapacityInternal", desc := "(I)V" } : Jvm.MethodName)) rfl (w83 hw) (notFace_of_selects (w85 hw))) (w67 hw) (w52 hw) (w117 hw) (by decide) (by decide) pd18 (st := []) rfl rfl rfl (W := 0) (Nat.le_of_eq rfl) (by decide) (by decide) (by decide) (by decide) (cells' := 1) (slots' := 34) rfl rfl ?_
  rintro _ h1 ⟨rfl, K1, r⟩
  show Run _ _ _ _ _ h1 _ _ 5 #[.val (.ref a), .val (.int y)] [.ref a]
  refine r_pop C (pc' := 6) d19_5 rfl rfl ?_
  refine r_aloadN C (pc' := 7) d19_6 rfl rfl rfl ?_
  exact r_areturn C d19_7 rfl rfl (by decide) (by decide) (Nat.zero_le _) (fun _ _ => ⟨rfl, K1, r⟩)
set_option maxRecDepth 65536 in
set_option maxHeartbeats 4000000 in
theorem c_isLatin1 (l : Launch) (Z : State) (a0 : Array Value) (hw : ∀ d ∈ tables_1, d.before a0 Z = true) (n0 : Nat) (h0 : Heap) (cc : Int32) (fv : Value) (ss : own_SS Z cc fv) (ol : Od Z n0 h0) (a : Nat) (F : Fld Z h0 a "java/lang/String" "coder" "B" (.int 0)) :
    Con l [] (⟨"java/lang/String", "isLatin1", "()Z"⟩ : MethodName) jdk_42_method_154_code 1 (some .boolean) ({ frames := 0, cells := 0, slots := 0, locals := 0 } : Room) Z #[(.ref a)] h0 n0 (fun v h => v = some (.int 1) ∧ h0 = h) := by
  refine enter (Ls := #[.val (.ref a)]) pn29 (fun m => by first | (simp [entryFrame, mkF, argsToLocals, Value.category]; done) | rfl) ?_
  intro K C
  refine r_getS C (pc' := 3) d38_0 rfl (w19 hw) Via.refl (ss.1.ext ol.2) ?_
  refine r_if_eq_f C (pc' := 6) d38_3 rfl ss.2.1 ?_
  refine r_aloadN C (pc' := 7) d38_6 rfl rfl rfl ?_
  refine r_getF C (pc' := 10) d38_7 rfl (w31 hw) Via.refl F ?_
  refine r_if_ne_f C (pc' := 13) d38_10 rfl (by decide) ?_
  refine r_iconst C (pc' := 14) (v := 1) d38_13 rfl rfl ?_
  refine r_goto C (pc' := 18) d38_14 (by decide) (by decide) ?_
  exact r_zreturn C d38_18 rfl (by decide) (by decide) (Nat.zero_le _) (fun _ _ => ⟨rfl, rfl⟩)
set_option maxRecDepth 65536 in
set_option maxHeartbeats 4000000 in
theorem c_pcheck (l : Launch) (Z : State) (a0 : Array Value) (hw : ∀ d ∈ tables_1, d.before a0 Z = true) (n0 : Nat) (h0 : Heap) (i n : Nat) (fv : Value) (hf : fv.isRef = true) (hn : n < 2147483648) (hi : i < n) :
    Con l [] (⟨"jdk/internal/util/Preconditions", "checkIndex", "(IILjava/util/function/BiFunction;)I"⟩ : MethodName) jdk_41_method_11_code 3 (some .int) ({ frames := 0, cells := 0, slots := 0, locals := 0 } : Room) Z #[(.int (i32 i)), (.int (i32 n)), fv] h0 n0 (fun v h => v = some (.int (i32 i)) ∧ h0 = h) := by
  refine enter (Ls := #[.val (.int (i32 i)), .val (.int (i32 n)), .val fv]) pn30 (fun m => by rcases ref_cases hf with rfl | ⟨zz, rfl⟩ <;> first | (simp [entryFrame, mkF, argsToLocals, Value.category]; done) | rfl) ?_
  intro K C
  refine r_iloadN C (pc' := 1) d41_0 rfl rfl ?_
  refine r_if_lt_f C (pc' := 4) d41_1 rfl (i32_nn (by omega)) ?_
  refine r_iloadN C (pc' := 5) d41_4 rfl rfl ?_
  refine r_iloadN C (pc' := 6) d41_5 rfl rfl ?_
  refine r_icmp_lt_t C (pc' := 16) d41_6 (by decide) (by decide) ((i32_lt (by omega) hn).mpr hi) ?_
  refine r_iloadN C (pc' := 17) d41_16 rfl rfl ?_
  exact r_ireturn C d41_17 (by decide) (by decide) (Nat.zero_le _) (fun _ _ => ⟨rfl, rfl⟩)
set_option maxRecDepth 65536 in
set_option maxHeartbeats 4000000 in
theorem c_scheck (l : Launch) (Z : State) (a0 : Array Value) (hw : ∀ d ∈ tables_1, d.before a0 Z = true) (n0 : Nat) (h0 : Heap) (cc : Int32) (fv : Value) (ss : own_SS Z cc fv) (ol : Od Z n0 h0) (i n : Nat) (hn : n < 2147483648) (hi : i < n) :
    Con l [] (⟨"java/lang/String", "checkIndex", "(II)V"⟩ : MethodName) jdk_42_method_155_code 2 none ({ frames := 1, cells := 0, slots := 0, locals := 14 } : Room) Z #[(.int (i32 i)), (.int (i32 n))] h0 n0 (fun v h => v = none ∧ h0 = h) := by
  refine enter (Ls := #[.val (.int (i32 i)), .val (.int (i32 n))]) pn31 (fun m => by first | (simp [entryFrame, mkF, argsToLocals, Value.category]; done) | rfl) ?_
  intro K C
  refine r_iloadN C (pc' := 1) d40_0 rfl rfl ?_
  refine r_iloadN C (pc' := 2) d40_1 rfl rfl ?_
  refine r_getS C (pc' := 5) d40_2 rfl (w208 hw) Via.refl (ss.2.2.1.ext ol.2) ?_
  refine r_callS C (pc' := 8) (argsL := [.int (i32 i), .int (i32 n), fv]) (c_pcheck l Z a0 hw n0 h0 i n fv ss.2.2.2 hn hi) d40_5 rfl (w210 hw) (w211 hw) (w209 hw) (w212 hw) (by decide) pd19 (st := []) rfl rfl rfl (W := 0) (Nat.le_of_eq rfl) (by decide) (by decide) (by decide) (by decide) (cells' := 0) (slots' := 0) rfl rfl ?_
  rintro _ _ ⟨rfl, rfl⟩
  show Run _ _ _ _ _ _ _ _ 8 #[.val (.int (i32 i)), .val (.int (i32 n))] [.int (i32 i)]
  refine r_pop C (pc' := 9) d40_8 rfl rfl ?_
  exact r_return C d40_9 (by decide) (by decide) (Nat.zero_le _) (fun _ _ => ⟨rfl, rfl⟩)
set_option maxRecDepth 65536 in
set_option maxHeartbeats 4000000 in
theorem c_l1charAt (l : Launch) (Z : State) (a0 : Array Value) (hw : ∀ d ∈ tables_1, d.before a0 Z = true) (n0 : Nat) (h0 : Heap) (cc : Int32) (fv : Value) (ss : own_SS Z cc fv) (ol : Od Z n0 h0) (b : Nat) (k : ClassId) (cs : List Nat) (A : AV Z h0 b k .byte ((cs.map by8).map Value.int) (.int 0)) (i c : Nat) (hc : cs[i]? = some c) (hb : c < 256) :
    Con l [] (⟨"java/lang/StringLatin1", "charAt", "([BI)C"⟩ : MethodName) jdk_43_method_2_code 2 (some .char) ({ frames := 2, cells := 0, slots := 0, locals := 27 } : Room) Z #[(.ref b), (.int (i32 i))] h0 n0 (fun v h => v = some (.int (i32 c)) ∧ h0 = h) := by
  refine enter (Ls := #[.val (.ref b), .val (.int (i32 i))]) pn32 (fun m => by first | (simp [entryFrame, mkF, argsToLocals, Value.category]; done) | rfl) ?_
  intro K C
  have hn : cs.length < 2147483648 := by have := A.2; rwa [own_blen] at this
  have hi := lt_of_get hc
  refine r_iloadN C (pc' := 1) d39_0 rfl rfl ?_
  refine r_aloadN C (pc' := 2) d39_1 rfl rfl rfl ?_
  refine r_lengthV C (pc' := 3) (n := cs.length) d39_2 rfl A (own_blen cs) ?_
  refine r_callS C (pc' := 6) (argsL := [.int (i32 i), .int (i32 cs.length)]) (c_scheck l Z a0 hw n0 h0 cc fv ss ol i cs.length hn hi) d39_3 rfl (w205 hw) (w206 hw) (w8 hw) (w207 hw) (by decide) pd11 (st := []) rfl rfl rfl (W := 0) (Nat.le_of_eq rfl) (by decide) (by decide) (by decide) (by decide) (cells' := 0) (slots' := 0) rfl rfl ?_
  rintro _ _ ⟨rfl, rfl⟩
  show Run _ _ _ _ _ _ _ _ 6 #[.val (.ref b), .val (.int (i32 i))] []
  refine r_aloadN C (pc' := 7) d39_6 rfl rfl rfl ?_
  refine r_iloadN C (pc' := 8) d39_7 rfl rfl ?_
  refine r_baloadV C (pc' := 9) (i := i) d39_8 rfl A rfl (own_bget hc) ?_
  refine r_sipush C (pc' := 12) (v := (255)) d39_9 rfl rfl ?_
  refine r_iand C (pc' := 13) d39_12 rfl ?_
  refine r_i2c C (pc' := 14) d39_13 rfl ?_
  rw [own_byte hb]
  exact r_creturn C d39_14 (own_narF ⟨c, by omega⟩) (by decide) (by decide) (Nat.zero_le _) (fun _ _ => ⟨rfl, rfl⟩)
set_option maxRecDepth 65536 in
set_option maxHeartbeats 4000000 in
theorem c_charAt (l : Launch) (Z : State) (a0 : Array Value) (hw : ∀ d ∈ tables_1, d.before a0 Z = true) (n0 : Nat) (h0 : Heap) (cc : Int32) (fv : Value) (ss : own_SS Z cc fv) (ol : Od Z n0 h0) (a b : Nat) (k : ClassId) (cs : List Nat) (S : St Z h0 a b k cs) (i c : Nat) (hc : cs[i]? = some c) (hb : c < 256) :
    Con l [] (⟨"java/lang/String", "charAt", "(I)C"⟩ : MethodName) jdk_42_method_56_code 2 (some .char) ({ frames := 3, cells := 0, slots := 0, locals := 40 } : Room) Z #[(.ref a), (.int (i32 i))] h0 n0 (fun v h => v = some (.int (i32 c)) ∧ h0 = h) := by
  refine enter (Ls := #[.val (.ref a), .val (.int (i32 i))]) pn33 (fun m => by first | (simp [entryFrame, mkF, argsToLocals, Value.category]; done) | rfl) ?_
  intro K C
  refine r_aloadN C (pc' := 1) d37_0 rfl rfl rfl ?_
  refine r_callV C (pc' := 4) (argsL := []) (c_isLatin1 l Z a0 hw n0 h0 cc fv ss ol a S.2.1) S.1 d37_1 rfl (w196 hw) (w197 hw) (nfSel (z := ({ cls := "java/lang/String", name := "isLatin1", desc := "()Z" } : Jvm.MethodName)) (w199 hw)) (w199 hw) (w198 hw) (w8 hw) (w200 hw) (by decide) pd14 (st := []) rfl rfl rfl (W := 0) (Nat.le_of_eq rfl) (by decide) (by decide) (by decide) (by decide) (cells' := 0) (slots' := 0) rfl rfl ?_
  rintro _ _ ⟨rfl, rfl⟩
  show Run _ _ _ _ _ _ _ _ 4 #[.val (.ref a), .val (.int (i32 i))] [.int (1 : Int32)]
  refine r_if_eq_f C (pc' := 7) d37_4 rfl (by decide) ?_
  refine r_aloadN C (pc' := 8) d37_7 rfl rfl rfl ?_
  refine r_getF C (pc' := 11) d37_8 rfl (w33 hw) Via.refl S.2.2.1 ?_
  refine r_iloadN C (pc' := 12) d37_11 rfl rfl ?_
  refine r_callS C (pc' := 15) (argsL := [.ref b, .int (i32 i)]) (c_l1charAt l Z a0 hw n0 _ cc fv ss ol b k cs S.2.2.2 i c hc hb) d37_12 rfl (w201 hw) (w202 hw) (w203 hw) (w204 hw) (by decide) pd20 (st := []) rfl rfl rfl (W := 0) (Nat.le_of_eq rfl) (by decide) (by decide) (by decide) (by decide) (cells' := 0) (slots' := 0) rfl rfl ?_
  rintro _ _ ⟨rfl, rfl⟩
  show Run _ _ _ _ _ _ _ _ 15 #[.val (.ref a), .val (.int (i32 i))] [.int (i32 c)]
  exact r_creturn C d37_15 (own_narF ⟨c, by omega⟩) (by decide) (by decide) (Nat.zero_le _) (fun _ _ => ⟨rfl, rfl⟩)
set_option maxRecDepth 65536 in
set_option maxHeartbeats 4000000 in
theorem c_comp0 (l : Launch) (Z : State) (a0 : Array Value) (hw : ∀ d ∈ tables_1, d.before a0 Z = true) (n0 : Nat) (h0 : Heap) (a b : Nat) (ka kb : ClassId) (cs : List Nat) (vs : List Value) (A : AV Z h0 a ka .char (cs.map vch) (.int 0)) (Bv : AV Z h0 b kb .byte vs (.int 0)) (hv : vs.length = cs.length) (hcs : ∀ c ∈ cs, c < 256) (ge : n0 ≤ b) (ne : a ≠ b) :
    Con l [] (⟨"java/lang/StringUTF16", "compress", "([CI[BII)I"⟩ : MethodName) jdk_52_method_21_code 7 (some .int) ({ frames := 0, cells := 0, slots := 0, locals := 0 } : Room) Z #[(.ref a), (.int (0 : Int32)), (.ref b), (.int (0 : Int32)), (.int (i32 cs.length))] h0 n0 (fun v h => v = some (.int (i32 cs.length)) ∧ Keep h0 h [b] ∧ AV Z h b kb .byte ((cs.map by8).map Value.int) (.int 0)) := by
  refine enter (Ls := #[.val (.ref a), .val (.int (0 : Int32)), .val (.ref b), .val (.int (0 : Int32)), .val (.int (i32 cs.length)), .unset, .unset]) pn34 (fun m => by first | (simp [entryFrame, mkF, argsToLocals, Value.category]; done) | rfl) ?_
  intro K C
  have hn : cs.length < 2147483648 := by have := A.2; rwa [own_clen] at this
  have loop : ∀ (m i : Nat) (h : Heap) (ws : List Value) (L6 : Slot), cs.length - i = m → i ≤ cs.length → ws.length = cs.length → ws.take i = ((cs.take i).map by8).map Value.int → Keep h0 h [b] → AV Z h b kb .byte ws (.int 0) → (L6 = .unset ∨ ∃ u, L6 = .val (.int u)) → Run l ({ frames := 0, cells := 0, slots := 0, locals := 0 } : Room) n0 (fun v h _ => v = some (.int (i32 cs.length)) ∧ Keep h0 h [b] ∧ AV Z h b kb .byte ((cs.map by8).map Value.int) (.int 0)) K h 0 0 3 #[.val (.ref a), .val (.int (i32 i)), .val (.ref b), .val (.int (i32 i)), .val (.int (i32 cs.length)), .val (.int (i32 i)), L6] [] := by
    intro m
    induction m with
    | zero =>
      intro i h ws L6 hm hi hl ht Kp B hL
      obtain rfl : i = cs.length := by omega
      refine r_iload C (pc' := 5) d6_3 rfl rfl ?_
      refine r_iload C (pc' := 7) d6_5 rfl rfl ?_
      refine r_icmp_ge_t C (pc' := 44) d6_7 (by decide) (by decide) (fun q => absurd ((i32_lt hn hn).mp q) (Nat.lt_irrefl _)) ?_
      refine r_iload C (pc' := 46) d6_44 rfl rfl ?_
      exact r_ireturn C d6_46 (by decide) (by decide) (Nat.zero_le _) (fun _ _ => ⟨rfl, Kp, by rw [← hl, List.take_length, hl, List.take_length] at ht; rw [← ht]; exact B⟩)
    | succ m ih =>
      intro i h ws L6 hm hi hl ht Kp B hL
      have hlt : i < cs.length := by omega
      obtain ⟨c, hc⟩ : ∃ c, cs[i]? = some c := ⟨_, List.getElem?_eq_getElem hlt⟩
      have hb := hcs c (List.mem_of_getElem? hc)
      refine r_iload C (pc' := 5) d6_3 rfl rfl ?_
      refine r_iload C (pc' := 7) d6_5 rfl rfl ?_
      refine r_icmp_ge_f C (pc' := 10) d6_7 rfl ((i32_lt (by omega) hn).mpr hlt) ?_
      refine r_aloadN C (pc' := 11) d6_10 rfl rfl rfl ?_
      refine r_iloadN C (pc' := 12) d6_11 rfl rfl ?_
      refine r_caloadV C (pc' := 13) (i := i) d6_12 rfl (A.keep Kp (ninS (nn ne) nin0)) rfl (own_cget hc) ?_
      refine r_istore C (pc' := 15) (Ls' := #[.val (.ref a), .val (.int (i32 i)), .val (.ref b), .val (.int (i32 i)), .val (.int (i32 cs.length)), .val (.int (i32 i)), .val (.int (i32 c))]) d6_13 rfl (by rcases hL with rfl | ⟨u, rfl⟩ <;> rfl) ?_
      refine r_iload C (pc' := 17) d6_15 rfl rfl ?_
      refine r_sipush C (pc' := 20) (v := (255)) d6_17 rfl rfl ?_
      refine r_icmp_le_t C (pc' := 26) d6_20 (by decide) (by decide) (fun q => absurd ((i32_lt (a := 255) (by decide) (by omega)).mp q) (by omega)) ?_
      refine r_aloadN C (pc' := 27) d6_26 rfl rfl rfl ?_
      refine r_iloadN C (pc' := 28) d6_27 rfl rfl ?_
      refine r_iload C (pc' := 30) d6_28 rfl rfl ?_
      refine r_i2b C (pc' := 31) d6_30 rfl ?_
      refine r_bastoreV C (pc' := 32) (i := i) d6_31 rfl B rfl (by omega) (fits_nar_byte _) ge ?_
      intro h2 W B'
      refine r_iinc C (pc' := 35) (v := (1)) (Ls' := #[.val (.ref a), .val (.int ((i32 i) + (1 : Int32))), .val (.ref b), .val (.int (i32 i)), .val (.int (i32 cs.length)), .val (.int (i32 i)), .val (.int (i32 c))]) d6_32 rfl rfl rfl rfl ?_
      refine r_iinc C (pc' := 38) (v := (1)) (Ls' := #[.val (.ref a), .val (.int ((i32 i) + (1 : Int32))), .val (.ref b), .val (.int ((i32 i) + (1 : Int32))), .val (.int (i32 cs.length)), .val (.int (i32 i)), .val (.int (i32 c))]) d6_35 rfl rfl rfl rfl ?_
      refine r_iinc C (pc' := 41) (v := (1)) (Ls' := #[.val (.ref a), .val (.int ((i32 i) + (1 : Int32))), .val (.ref b), .val (.int ((i32 i) + (1 : Int32))), .val (.int (i32 cs.length)), .val (.int ((i32 i) + (1 : Int32))), .val (.int (i32 c))]) d6_38 rfl rfl rfl rfl ?_
      refine r_goto C (pc' := 3) d6_41 (by decide) (by decide) ?_
      rw [show i32 i + (1 : Int32) = i32 (i + 1) from i32_add i 1]
      refine ih (i + 1) h2 _ _ (by omega) hlt (by rw [List.length_set]; exact hl) ?_ (Kp.wr W (Or.inl (by simp))) B' (Or.inr ⟨_, rfl⟩)
      rw [own_tset _ _ _ (by omega), ht, own_take1 hc, List.map_append, List.map_append]
      have e := own_bynar c; unfold by8 at e; rw [e]; rfl
  refine r_iconst C (pc' := 1) (v := 0) d6_0 rfl rfl ?_
  refine r_istore C (pc' := 3) (Ls' := #[.val (.ref a), .val (.int (0 : Int32)), .val (.ref b), .val (.int (0 : Int32)), .val (.int (i32 cs.length)), .val (.int (0 : Int32)), .unset]) d6_1 rfl rfl ?_
  refine loop _ 0 h0 _ _ rfl (Nat.zero_le _) hv rfl (Keep.refl _ _) Bv (Or.inl rfl)
set_option maxRecDepth 65536 in
set_option maxHeartbeats 4000000 in
theorem c_comp (l : Launch) (Z : State) (a0 : Array Value) (hw : ∀ d ∈ tables_1, d.before a0 Z = true) (n0 : Nat) (h0 : Heap) (hn : n0 ≤ h0.size) (a : Nat) (ka : ClassId) (cs : List Nat) (A : AV Z h0 a ka .char (cs.map vch) (.int 0)) (hcs : ∀ c ∈ cs, c < 256) (hcap : cs.length ≤ 2) :
    Con l [] (⟨"java/lang/StringUTF16", "compress", "([CII)[B"⟩ : MethodName) jdk_52_method_16_code 6 (some (.array .byte)) ({ frames := 1, cells := 1, slots := 2, locals := 18 } : Room) Z #[(.ref a), (.int (0 : Int32)), (.int (i32 cs.length))] h0 n0 (fun v h => ∃ (b : Nat) (kb : ClassId), v = some (.ref b) ∧ b = h0.size ∧ Keep h0 h [] ∧ AV Z h b kb .byte ((cs.map by8).map Value.int) (.int 0)) := by
  refine enter (Ls := #[.val (.ref a), .val (.int (0 : Int32)), .val (.int (i32 cs.length)), .unset, .unset, .unset]) pn35 (fun m => by first | (simp [entryFrame, mkF, argsToLocals, Value.category]; done) | rfl) ?_
  intro K C
  have hA := A.lt
  refine r_iloadN C (pc' := 1) d5_0 rfl rfl ?_
  refine r_newarrayV C (pc' := 3) (ty := .byte) (m := cs.length) (cap := 2) d5_1 rfl rfl (w24 hw) rfl hcap (by decide) (by decide) (by decide) ?_
  intro h1 b kb gb E1 B1
  refine r_astoreN C (pc' := 4) (Ls' := #[.val (.ref a), .val (.int (0 : Int32)), .val (.int (i32 cs.length)), .val (.ref b), .unset, .unset]) d5_3 rfl rfl rfl ?_
  refine r_aloadN C (pc' := 5) d5_4 rfl rfl rfl ?_
  refine r_iloadN C (pc' := 6) d5_5 rfl rfl ?_
  refine r_aloadN C (pc' := 7) d5_6 rfl rfl rfl ?_
  refine r_iconst C (pc' := 8) (v := 0) d5_7 rfl rfl ?_
  refine r_iloadN C (pc' := 9) d5_8 rfl rfl ?_
  refine r_callS C (pc' := 12) (argsL := [.ref a, .int (0 : Int32), .ref b, .int (0 : Int32), .int (i32 cs.length)]) (c_comp0 l Z a0 hw n0 h1 a b ka kb cs _ (A.ext E1) B1 (List.length_replicate ..) hcs (by omega) (by omega)) d5_9 rfl (w25 hw) (w26 hw) (w22 hw) (w27 hw) (by decide) pd21 (st := []) rfl rfl rfl (W := 0) (Nat.le_of_eq rfl) (by decide) (by decide) (by decide) (by decide) (cells' := 1) (slots' := 2) rfl rfl ?_
  rintro _ h2 ⟨rfl, K2, B2⟩
  show Run _ _ _ _ _ h2 _ _ 12 #[.val (.ref a), .val (.int (0 : Int32)), .val (.int (i32 cs.length)), .val (.ref b), .unset, .unset] [.int (i32 cs.length)]
  refine r_istore C (pc' := 14) (Ls' := #[.val (.ref a), .val (.int (0 : Int32)), .val (.int (i32 cs.length)), .val (.ref b), .val (.int (i32 cs.length)), .unset]) d5_12 rfl rfl ?_
  refine r_iload C (pc' := 16) d5_14 rfl rfl ?_
  refine r_iloadN C (pc' := 17) d5_16 rfl rfl ?_
  refine r_icmp_eq_t C (pc' := 57) d5_17 (by decide) (by decide) rfl ?_
  refine r_aloadN C (pc' := 58) d5_57 rfl rfl rfl ?_
  exact r_areturn C d5_58 rfl rfl (by decide) (by decide) (Nat.zero_le _) (fun _ _ => ⟨b, kb, rfl, gb, ((Keep.refl h0 []).ext E1).trans K2 (allS (Or.inr (by omega)) all0), B2⟩)
set_option maxRecDepth 65536 in
set_option maxHeartbeats 4000000 in
theorem c_coderLen (l : Launch) (Z : State) (a0 : Array Value) (hw : ∀ d ∈ tables_1, d.before a0 Z = true) (n0 : Nat) (h0 : Heap) (b : Nat) (k : ClassId) (vs : List Value) (n : Nat) (A : AV Z h0 b k .byte vs (.int 0)) (hv : vs.length = n) :
    Con l [] (⟨"java/lang/StringUTF16", "coderFromArrayLen", "([BI)B"⟩ : MethodName) jdk_52_method_15_code 2 (some .byte) ({ frames := 0, cells := 0, slots := 0, locals := 0 } : Room) Z #[(.ref b), (.int (i32 n))] h0 n0 (fun v h => v = some (.int 0) ∧ h0 = h) := by
  refine enter (Ls := #[.val (.ref b), .val (.int (i32 n))]) pn36 (fun m => by first | (simp [entryFrame, mkF, argsToLocals, Value.category]; done) | rfl) ?_
  intro K C
  refine r_iloadN C (pc' := 1) d7_0 rfl rfl ?_
  refine r_aloadN C (pc' := 2) d7_1 rfl rfl rfl ?_
  refine r_lengthV C (pc' := 3) (n := n) d7_2 rfl A hv ?_
  refine r_isub C (pc' := 4) d7_3 rfl ?_
  refine r_bipush C (pc' := 6) (v := (31)) d7_4 rfl rfl ?_
  refine r_iushr C (pc' := 7) d7_6 rfl ?_
  refine r_i2b C (pc' := 8) d7_7 rfl ?_
  rw [own_coder0]
  exact r_breturn C d7_8 rfl (by decide) (by decide) (Nat.zero_le _) (fun _ _ => ⟨rfl, rfl⟩)
set_option maxRecDepth 65536 in
set_option maxHeartbeats 4000000 in
theorem c_initCVL (l : Launch) (Z : State) (a0 : Array Value) (hw : ∀ d ∈ tables_1, d.before a0 Z = true) (n0 : Nat) (h0 : Heap) (cc : Int32) (fv : Value) (ss : own_SS Z cc fv) (ol : Od Z n0 h0) (hn : n0 ≤ h0.size) (a ac : Nat) (kc : ClassId) (us : List Nat) (ge : n0 ≤ a) (E : Exa Z h0 a "java/lang/String") (Fv : Fld Z h0 a "java/lang/String" "value" "[B" .null) (co : Value) (Fc : Fld Z h0 a "java/lang/String" "coder" "B" co) (A : AV Z h0 ac kc .char (us.map vch) (.int 0)) (hus : ∀ c ∈ us, c < 256) (hcap : us.length ≤ 2) (held : Jvm.Lit.constHeld Z "java/lang/String" 7) (hcw : Jvm.Lit.compactW.before a0 Z = true) :
    ConW l [] (⟨"java/lang/String", "<init>", "([CIILjava/lang/Void;)V"⟩ : MethodName) jdk_42_method_149_code 6 none ({ frames := 2, cells := 2, slots := 4, locals := 35 } : Room) Z #[(.ref a), (.ref ac), (.int (0 : Int32)), (.int (i32 us.length)), .null] h0 n0 (fun vm => EE Z h0 vm) (fun v h vm => v = none ∧ Keep h0 h [a] ∧ (∃ (b : Nat) (k : ClassId), St Z h a b k us ∧ b ≠ a) ∧ EE Z h vm) := by
  refine enterW (Ls := #[.val (.ref a), .val (.ref ac), .val (.int (0 : Int32)), .val (.int (i32 us.length)), .val .null, .unset]) pn37 (fun m => by first | (simp [entryFrame, mkF, argsToLocals, Value.category]; done) | rfl) ?_
  intro K vm kz B D hkz hV
  have C := B.ctx0 D
  have wS : ∀ a ∈ Bundle.stringAtoms, a.before a0 Z = true := (by intro a ha; simp only [Bundle.stringAtoms, List.mem_cons, List.not_mem_nil, or_false] at ha; rcases ha with rfl | rfl | rfl | rfl | rfl | rfl | rfl <;> first | exact (w8 hw) | exact (w7 hw) | exact (w24 hw) | exact (w34 hw) | exact (w32 hw) | exact (w36 hw) | exact (w37 hw))
  have hl : us.length < 2147483648 := by have := A.2; rwa [own_clen] at this
  have ha := exaLt E
  have EEk : ∀ h', Keep h0 h' [a] → EE Z h' vm := fun h' Kq => by
    rcases hV with i | ⟨i, lt, lb, lk, L, T⟩
    · exact Or.inl i
    · have n1 : lt ≠ a := fun e => by subst e; exact absurd (Fld.inj T.2.2.1 Fv) (by simp)
      have n2 : lb ≠ a := fun e => (Exa.neArv E T.2.2.2.1 (w7 hw)) e.symm
      exact Or.inr ⟨i, lt, lb, lk, L, T.keep Kq (ninS n1 nin0) (ninS n2 nin0)⟩
  refine r_aloadN C (pc' := 1) d3_0 rfl rfl rfl ?_
  refine r_initO C (pc' := 4) (W := 0) d3_1 rfl (w16 hw) (w17 hw) (w18 hw) rfl (by decide) (Nat.le_of_eq rfl) (by decide) ?_
  refine r_iloadN C (pc' := 5) d3_4 rfl rfl ?_
  refine r_if_ne C (pt := 27) (pc' := 8) d3_5 (by decide) (by decide) rfl ?_ ?_
  · intro q
    refine Run.touch ?_
    replace C := B.ctx D
    refine r_getS C (pc' := 30) d3_27 rfl (w19 hw) Via.refl (ss.1.ext ol.2) ?_
    refine r_if_eq_f C (pc' := 33) d3_30 rfl ss.2.1 ?_
    refine r_aloadN C (pc' := 34) d3_33 rfl rfl rfl ?_
    refine r_iloadN C (pc' := 35) d3_34 rfl rfl ?_
    refine r_iloadN C (pc' := 36) d3_35 rfl rfl ?_
    refine r_callS C (pc' := 39) (argsL := [.ref ac, .int (0 : Int32), .int (i32 us.length)]) (c_comp l Z a0 hw n0 h0 hn ac kc us A hus hcap) d3_36 rfl (w20 hw) (w21 hw) (w22 hw) (w23 hw) (by decide) pd22 (st := []) rfl rfl rfl (W := 0) (Nat.le_of_eq rfl) (by decide) (by decide) (by decide) (by decide) (cells' := 1) (slots' := 2) rfl rfl ?_
    rintro _ h1 ⟨b, k, rfl, gb, K1, B1⟩
    show Run _ _ _ _ _ h1 _ _ 39 #[.val (.ref a), .val (.ref ac), .val (.int (0 : Int32)), .val (.int (i32 us.length)), .val .null, .unset] [.ref b]
    have x1 := K1.1
    replace E := E.keep K1
    replace Fv := Fv.keep K1 nin0
    replace Fc := Fc.keep K1 nin0
    refine r_astore C (pc' := 41) (Ls' := #[.val (.ref a), .val (.ref ac), .val (.int (0 : Int32)), .val (.int (i32 us.length)), .val .null, .val (.ref b)]) d3_39 rfl rfl rfl ?_
    refine r_aloadN C (pc' := 42) d3_41 rfl rfl rfl ?_
    refine r_aload C (pc' := 44) d3_42 rfl rfl rfl ?_
    refine r_iloadN C (pc' := 45) d3_44 rfl rfl ?_
    refine r_callS C (pc' := 48) (argsL := [.ref b, .int (i32 us.length)]) (c_coderLen l Z a0 hw n0 h1 b k _ us.length B1 (own_blen us)) d3_45 rfl (w28 hw) (w29 hw) (w22 hw) (w30 hw) (by decide) pd23 (st := [.ref a]) rfl rfl rfl (W := 1) (Nat.le_of_eq rfl) (by decide) (by decide) (by decide) (by decide) (cells' := 1) (slots' := 2) rfl rfl ?_
    rintro _ _ ⟨rfl, rfl⟩
    show Run _ _ _ _ _ _ _ _ 48 #[.val (.ref a), .val (.ref ac), .val (.int (0 : Int32)), .val (.int (i32 us.length)), .val .null, .val (.ref b)] [.int (0 : Int32), .ref a]
    refine r_putF C (pc' := 51) d3_48 rfl (w31 hw) Via.refl Fc E (Or.inr ⟨(w32 hw), rfl, rfl⟩) (w7 hw) (ty := .byte) (by decide) rfl rfl ge ?_
    intro h2 W2
    replace Fv := Fv.other W2 (Or.inr (sn6 (Z := Z) hw))
    replace Fc := Fc.same W2
    replace E := E.wr W2
    replace B1 := B1.other W2 (nn (by omega))
    refine r_aloadN C (pc' := 52) d3_51 rfl rfl rfl ?_
    refine r_aload C (pc' := 54) d3_52 rfl rfl rfl ?_
    refine r_putF C (pc' := 57) d3_54 rfl (w33 hw) Via.refl Fv E (Or.inr ⟨(w34 hw), rfl, rfl⟩) (w7 hw) (ty := (.array .byte)) (by decide) rfl rfl ge ?_
    intro h3 W3
    replace Fv := Fv.same W3
    replace Fc := Fc.other W3 (Or.inr (sn7 (Z := Z) hw))
    replace E := E.wr W3
    replace B1 := B1.other W3 (nn (by omega))
    have x2 := W2.size
    have x3 := W3.size
    have K3 := (((Keep.refl h0 [a]).trans K1 all0).wr W2 (Or.inl (by simp))).wr W3 (Or.inl (by simp))
    exact r_return C d3_57 (by decide) (by decide) (by omega) (fun vm' hW => ⟨rfl, K3, ⟨b, k, ⟨E, Fc, Fv, B1⟩, by omega⟩, EE.at (EEk _ K3) hW⟩)
  · intro q
    have hc0 : us = [] := List.eq_nil_of_length_eq_zero ((i32_eq (b := 0) hl (by decide)).mp q)
    subst hc0
    refine r_aloadN C (pc' := 9) d3_8 rfl rfl rfl ?_
    clear EEk
    rcases hV with i0 | ⟨I1, lt, lb, lk, L1, T⟩
    ·
      refine r_ldcS (n := 0) (bs := []) (pc' := 11) B D (by omega) d3_9 rfl (w35 hw) wS ol.2.2 i0 (by simp) held hcw ⟨by decide, by first | decide | rfl⟩ (by decide) (by decide) (by decide) (by decide) (by decide) ?_
      intro vm1 k1 h1 lt lb lk D zk1 E1 T I1 L1 _
      have E1x := E1.1
      replace C := B.ctx0 D
      have x1 := E1.1
      replace E := E.ext E1
      replace Fv := Fv.ext E1
      replace Fc := Fc.ext E1
      refine Run.touch ?_
      replace C := B.ctx D
      have n1 : lt ≠ a := fun e => by subst e; exact absurd (Fld.inj T.2.2.1 Fv) (by simp)
      have n2 : lb ≠ a := fun e => (Exa.neArv E T.2.2.2.1 (w7 hw)) e.symm
      refine r_getF C (pc' := 14) d3_11 rfl (w33 hw) Via.refl T.2.2.1 ?_
      refine r_putF C (pc' := 17) d3_14 rfl (w33 hw) Via.refl Fv E (Or.inr ⟨(w34 hw), rfl, rfl⟩) (w7 hw) (ty := (.array .byte)) (by decide) rfl rfl ge ?_
      intro h2 W2
      replace Fv := Fv.same W2
      replace Fc := Fc.other W2 (Or.inr (sn7 (Z := Z) hw))
      replace E := E.wr W2
      replace T := T.other W2 n1 n2
      refine r_aloadN C (pc' := 18) d3_17 rfl rfl rfl ?_
      refine r_ldcA (pc' := 20) B D d3_18 rfl (w35 hw) L1 ?_
      refine r_getF C (pc' := 23) d3_20 rfl (w31 hw) Via.refl T.2.1 ?_
      refine r_putF C (pc' := 26) d3_23 rfl (w31 hw) Via.refl Fc E (Or.inr ⟨(w32 hw), rfl, rfl⟩) (w7 hw) (ty := .byte) (by decide) rfl rfl ge ?_
      intro h3 W3
      replace Fv := Fv.other W3 (Or.inr (sn6 (Z := Z) hw))
      replace Fc := Fc.same W3
      replace E := E.wr W3
      replace T := T.other W3 n1 n2
      have x2 := W2.size
      have x3 := W3.size
      exact r_return C d3_26 (by decide) (by decide) (by omega) (fun vm' hW => ⟨rfl, (((Keep.refl h0 [a]).ext E1).wr W2 (Or.inl (by simp))).wr W3 (Or.inl (by simp)), ⟨lb, lk, ⟨E, Fc, Fv, T.2.2.2⟩, n2⟩, EE.at (Or.inr ⟨I1, lt, lb, lk, L1, T⟩) hW⟩)
    ·
      have E1 : Ext h0 h0 := ⟨Nat.le_refl _, fun _ _ q => q⟩
      refine r_ldcA (pc' := 11) B D d3_9 rfl (w35 hw) L1 ?_
      refine Run.touch ?_
      replace C := B.ctx D
      have n1 : lt ≠ a := fun e => by subst e; exact absurd (Fld.inj T.2.2.1 Fv) (by simp)
      have n2 : lb ≠ a := fun e => (Exa.neArv E T.2.2.2.1 (w7 hw)) e.symm
      refine r_getF C (pc' := 14) d3_11 rfl (w33 hw) Via.refl T.2.2.1 ?_
      refine r_putF C (pc' := 17) d3_14 rfl (w33 hw) Via.refl Fv E (Or.inr ⟨(w34 hw), rfl, rfl⟩) (w7 hw) (ty := (.array .byte)) (by decide) rfl rfl ge ?_
      intro h2 W2
      replace Fv := Fv.same W2
      replace Fc := Fc.other W2 (Or.inr (sn7 (Z := Z) hw))
      replace E := E.wr W2
      replace T := T.other W2 n1 n2
      refine r_aloadN C (pc' := 18) d3_17 rfl rfl rfl ?_
      refine r_ldcA (pc' := 20) B D d3_18 rfl (w35 hw) L1 ?_
      refine r_getF C (pc' := 23) d3_20 rfl (w31 hw) Via.refl T.2.1 ?_
      refine r_putF C (pc' := 26) d3_23 rfl (w31 hw) Via.refl Fc E (Or.inr ⟨(w32 hw), rfl, rfl⟩) (w7 hw) (ty := .byte) (by decide) rfl rfl ge ?_
      intro h3 W3
      replace Fv := Fv.other W3 (Or.inr (sn6 (Z := Z) hw))
      replace Fc := Fc.same W3
      replace E := E.wr W3
      replace T := T.other W3 n1 n2
      have x2 := W2.size
      have x3 := W3.size
      exact r_return C d3_26 (by decide) (by decide) (by omega) (fun vm' hW => ⟨rfl, (((Keep.refl h0 [a]).ext E1).wr W2 (Or.inl (by simp))).wr W3 (Or.inl (by simp)), ⟨lb, lk, ⟨E, Fc, Fv, T.2.2.2⟩, n2⟩, EE.at (Or.inr ⟨I1, lt, lb, lk, L1, T⟩) hW⟩)
set_option maxRecDepth 65536 in
set_option maxHeartbeats 4000000 in
theorem c_initCL (l : Launch) (Z : State) (a0 : Array Value) (hw : ∀ d ∈ tables_1, d.before a0 Z = true) (n0 : Nat) (h0 : Heap) (cc : Int32) (fv : Value) (ss : own_SS Z cc fv) (ol : Od Z n0 h0) (hn : n0 ≤ h0.size) (a ac : Nat) (kc : ClassId) (us : List Nat) (ge : n0 ≤ a) (E : Exa Z h0 a "java/lang/String") (Fv : Fld Z h0 a "java/lang/String" "value" "[B" .null) (co : Value) (Fc : Fld Z h0 a "java/lang/String" "coder" "B" co) (A : AV Z h0 ac kc .char (us.map vch) (.int 0)) (hus : ∀ c ∈ us, c < 256) (hcap : us.length ≤ 2) (held : Jvm.Lit.constHeld Z "java/lang/String" 7) (hcw : Jvm.Lit.compactW.before a0 Z = true) :
    ConW l [] (⟨"java/lang/String", "<init>", "([C)V"⟩ : MethodName) jdk_42_method_3_code 2 none ({ frames := 3, cells := 2, slots := 4, locals := 52 } : Room) Z #[(.ref a), (.ref ac)] h0 n0 (fun vm => EE Z h0 vm) (fun v h vm => v = none ∧ Keep h0 h [a] ∧ (∃ (b : Nat) (k : ClassId), St Z h a b k us ∧ b ≠ a) ∧ EE Z h vm) := by
  refine enterW (Ls := #[.val (.ref a), .val (.ref ac)]) pn38 (fun m => by first | (simp [entryFrame, mkF, argsToLocals, Value.category]; done) | rfl) ?_
  intro K vm kz B D hkz hV
  have C := B.ctx0 D
  refine r_aloadN C (pc' := 1) d2_0 rfl rfl rfl ?_
  refine r_aloadN C (pc' := 2) d2_1 rfl rfl rfl ?_
  refine r_iconst C (pc' := 3) (v := 0) d2_2 rfl rfl ?_
  refine r_aloadN C (pc' := 4) d2_3 rfl rfl rfl ?_
  refine r_lengthV C (pc' := 5) (n := us.length) d2_4 rfl A (own_clen us) ?_
  refine r_aconst_null C (pc' := 6) d2_5 rfl ?_
  refine Run.touch ?_
  replace C := B.ctx D
  refine r_callIW (rt := none) (pc' := 9) (argsL := [.ref ac, .int (0 : Int32), .int (i32 us.length), .null]) B D (by omega) (c_initCVL l Z a0 hw n0 h0 cc fv ss ol hn a ac kc us ge E Fv co Fc A hus hcap held hcw) (fun vm' hW => EE.warm hV hW) d2_6 rfl (w12 hw) (w13 hw) (w8 hw) (w15 hw) rfl (by decide) pd24 (st := []) rfl rfl rfl (W := 0) (Nat.le_of_eq rfl) (by decide) (by decide) (by decide) (by decide) (cells' := 2) (slots' := 4) rfl rfl ?_
  rintro _ h1 vm1 ⟨rfl, K1, r, I1⟩ x1 D'
  replace D := D'
  replace C := B.ctx D
  show Run _ _ _ _ _ h1 _ _ 9 #[.val (.ref a), .val (.ref ac)] []
  exact r_return C d2_9 (by decide) (by decide) (Nat.le_refl _) (fun vm' hW => ⟨rfl, K1, r, EE.at I1 hW⟩)
set_option maxRecDepth 65536 in
set_option maxHeartbeats 4000000 in
theorem c_mk (l : Launch) (Z : State) (a0 : Array Value) (hw : ∀ d ∈ tables_1, d.before a0 Z = true) (n0 : Nat) (h0 : Heap) (cc : Int32) (fv : Value) (ss : own_SS Z cc fv) (ol : Od Z n0 h0) (hn : n0 ≤ h0.size) (z : Int64) (cd : Nat) (hcd : cd < 4) (held : Jvm.Lit.constHeld Z "java/lang/String" 7) (hcw : Jvm.Lit.compactW.before a0 Z = true) :
    ConW l [] (⟨"com/example/ranker/ranker/RunFileLinePinLaw", "mk", "(JI)Ljava/lang/String;"⟩ : MethodName) method_3_code 6 (some (.object "java/lang/String")) ({ frames := 4, cells := 4, slots := 10, locals := 66 } : Room) Z #[(.long z), (.int (i32 cd))] h0 n0 (fun vm => EE Z h0 vm) (fun v h vm => (∃ (a b : Nat) (k : ClassId) (ds : List Nat), v = some (.ref a) ∧ St Z h a b k ds ∧ ds.length ≤ 2 ∧ ∀ c ∈ ds, c < 256) ∧ Keep h0 h [] ∧ EE Z h vm) := by
  refine enterW (Ls := #[.val (.long z), .second, .val (.int (i32 cd)), .unset, .unset, .unset]) pn39 (fun m => by first | (simp [entryFrame, mkF, argsToLocals, Value.category]; done) | rfl) ?_
  intro K vm kz B D hkz hV
  have C := B.ctx0 D
  obtain ⟨c0, b0, e0⟩ := i64_and255 z
  obtain ⟨c1, b1, e1⟩ := i64_and255 (XT.ushrL z 8)
  refine r_lloadN C (pc' := 1) d1_0 rfl rfl ?_
  refine r_ldc2J C (pc' := 4) d1_1 rfl (w4 hw) ?_
  refine r_land C (pc' := 5) d1_4 rfl ?_
  refine r_l2i C (pc' := 6) d1_5 rfl ?_
  refine r_i2c C (pc' := 7) d1_6 rfl ?_
  rw [show z &&& (255 : Int64) = i64 c0 from e0, i32_of64, own_ch (by omega)]
  refine r_istoreN C (pc' := 8) (Ls' := #[.val (.long z), .second, .val (.int (i32 cd)), .val (.int (i32 c0)), .unset, .unset]) d1_7 rfl rfl ?_
  refine r_lloadN C (pc' := 9) d1_8 rfl rfl ?_
  refine r_bipush C (pc' := 11) (v := (8)) d1_9 rfl rfl ?_
  refine r_lushr C (pc' := 12) d1_11 rfl ?_
  refine r_ldc2J C (pc' := 15) d1_12 rfl (w4 hw) ?_
  refine r_land C (pc' := 16) d1_15 rfl ?_
  refine r_l2i C (pc' := 17) d1_16 rfl ?_
  refine r_i2c C (pc' := 18) d1_17 rfl ?_
  rw [show XT.ushrL z (8 : Int32) &&& (255 : Int64) = i64 c1 from e1, i32_of64, own_ch (by omega)]
  refine r_istore C (pc' := 20) (Ls' := #[.val (.long z), .second, .val (.int (i32 cd)), .val (.int (i32 c0)), .val (.int (i32 c1)), .unset]) d1_18 rfl rfl ?_
  refine r_iloadN C (pc' := 21) d1_20 rfl rfl ?_
  refine r_if_ne C (pt := 35) (pc' := 24) d1_21 (by decide) (by decide) rfl ?_ ?_
  · intro q
    refine r_iloadN C (pc' := 36) d1_35 rfl rfl ?_
    refine r_iconst C (pc' := 37) (v := 1) d1_36 rfl rfl ?_
    refine r_icmp_ne C (pt := 60) (pc' := 40) d1_37 (by decide) (by decide) rfl ?_ ?_
    · intro r
      refine Run.touch ?_
      replace C := B.ctx D
      refine r_iconst C (pc' := 61) (v := 2) d1_60 rfl rfl ?_
      refine r_newarrayV C (pc' := 63) (ty := .char) (m := 2) (cap := 2) d1_61 rfl rfl (w5 hw) rfl (by decide) (by decide) (by decide) (by decide) ?_
      intro h1 ac kc gc E1 A0
      have x1 := E1.1
      have Kp := (Keep.refl h0 []).ext E1
      refine r_astore C (pc' := 65) (Ls' := #[.val (.long z), .second, .val (.int (i32 cd)), .val (.int (i32 c0)), .val (.int (i32 c1)), .val (.ref ac)]) d1_63 rfl rfl rfl ?_
      refine r_aload C (pc' := 67) d1_65 rfl rfl rfl ?_
      refine r_iconst C (pc' := 68) (v := 0) d1_67 rfl rfl ?_
      refine r_iloadN C (pc' := 69) d1_68 rfl rfl ?_
      refine r_castoreV C (pc' := 70) (i := 0) d1_69 rfl A0 rfl (by simp) (fits_nar_char _) (by omega) ?_
      intro h2 W0 A1
      rw [own_chn (by omega)] at A1
      have y0 := W0.size
      replace Kp := Kp.wr W0 (Or.inr (by omega))
      refine r_aload C (pc' := 72) d1_70 rfl rfl rfl ?_
      refine r_iconst C (pc' := 73) (v := 1) d1_72 rfl rfl ?_
      refine r_iload C (pc' := 75) d1_73 rfl rfl ?_
      refine r_castoreV C (pc' := 76) (i := 1) d1_75 rfl A1 rfl (by simp) (fits_nar_char _) (by omega) ?_
      intro h3 W1 A2
      rw [own_chn (by omega)] at A2
      have y1 := W1.size
      replace Kp := Kp.wr W1 (Or.inr (by omega))
      refine r_new C (pc' := 79) d1_76 rfl (w6 hw) (w7 hw) (w8 hw) (by decide) (by decide) ?_
      intro h5 a ga E5 E D5
      have Fv : Fld Z h5 a "java/lang/String" "value" "[B" (.null) := D5 (Or.inr (w34 hw)) (ty := (.array .byte)) (by decide)
      have Fc : Fld Z h5 a "java/lang/String" "coder" "B" (.int 0) := D5 (Or.inr (w32 hw)) (ty := .byte) (by decide)
      have x_h5 := E5.1
      replace A2 := A2.ext E5
      replace Kp := Kp.ext E5
      refine r_dup C (pc' := 80) d1_79 rfl rfl ?_
      refine r_aload C (pc' := 82) d1_80 rfl rfl rfl ?_
      have la := exaLt E
      have A' : AV Z h5 ac kc .char (([c0, c1] : List Nat).map vch) (.int 0) := A2
      have ok : ∀ c ∈ ([c0, c1] : List Nat), c < 256 := by simp; omega
      refine r_callIW (rt := none) (pc' := 85) (argsL := [.ref ac]) B D (by omega) (c_initCL l Z a0 hw n0 h5 cc fv ss (ol.keep Kp all0) (by omega) a ac kc _ (by omega) E Fv _ Fc A' ok (show 2 ≤ 2 by decide) held hcw) (fun vm' hW => EE.warm (hV.keep Kp) hW) d1_82 rfl (w9 hw) (w10 hw) (w8 hw) (w11 hw) rfl (by decide) pd25 (st := [.ref a]) rfl rfl rfl (W := 1) (Nat.le_of_eq rfl) (by decide) (by decide) (by decide) (by decide) (cells' := 4) (slots' := 10) rfl rfl ?_
      rintro _ h9 vm1 ⟨rfl, K1, ⟨b, k, G, nb⟩, I1⟩ x9 D'
      replace D := D'
      replace C := B.ctx D
      show Run _ _ _ _ _ h9 _ _ 85 #[.val (.long z), .second, .val (.int (i32 cd)), .val (.int (i32 c0)), .val (.int (i32 c1)), .val (.ref ac)] [.ref a]
      exact r_areturn C d1_85 rfl rfl (by decide) (by decide) (Nat.le_refl _) (fun vm' hW => ⟨⟨a, b, k, _, rfl, G, show 2 ≤ 2 by decide, ok⟩, Kp.trans K1 (allS (Or.inr (by omega)) all0), EE.at I1 hW⟩)
    · intro r
      have e1' : cd = 1 := (i32_eq (b := 1) (by omega) (by decide)).mp r
      subst e1'
      refine Run.touch ?_
      replace C := B.ctx D
      refine r_iconst C (pc' := 41) (v := 1) d1_40 rfl rfl ?_
      refine r_newarrayV C (pc' := 43) (ty := .char) (m := 1) (cap := 1) d1_41 rfl rfl (w5 hw) rfl (by decide) (by decide) (by decide) (by decide) ?_
      intro h1 ac kc gc E1 A0
      have x1 := E1.1
      have Kp := (Keep.refl h0 []).ext E1
      refine r_astore C (pc' := 45) (Ls' := #[.val (.long z), .second, .val (.int (i32 1)), .val (.int (i32 c0)), .val (.int (i32 c1)), .val (.ref ac)]) d1_43 rfl rfl rfl ?_
      refine r_aload C (pc' := 47) d1_45 rfl rfl rfl ?_
      refine r_iconst C (pc' := 48) (v := 0) d1_47 rfl rfl ?_
      refine r_iloadN C (pc' := 49) d1_48 rfl rfl ?_
      refine r_castoreV C (pc' := 50) (i := 0) d1_49 rfl A0 rfl (by simp) (fits_nar_char _) (by omega) ?_
      intro h2 W0 A1
      rw [own_chn (by omega)] at A1
      have y0 := W0.size
      replace Kp := Kp.wr W0 (Or.inr (by omega))
      refine r_new C (pc' := 53) d1_50 rfl (w6 hw) (w7 hw) (w8 hw) (by decide) (by decide) ?_
      intro h5 a ga E5 E D5
      have Fv : Fld Z h5 a "java/lang/String" "value" "[B" (.null) := D5 (Or.inr (w34 hw)) (ty := (.array .byte)) (by decide)
      have Fc : Fld Z h5 a "java/lang/String" "coder" "B" (.int 0) := D5 (Or.inr (w32 hw)) (ty := .byte) (by decide)
      have x_h5 := E5.1
      replace A1 := A1.ext E5
      replace Kp := Kp.ext E5
      refine r_dup C (pc' := 54) d1_53 rfl rfl ?_
      refine r_aload C (pc' := 56) d1_54 rfl rfl rfl ?_
      have la := exaLt E
      have A' : AV Z h5 ac kc .char (([c0] : List Nat).map vch) (.int 0) := A1
      have ok : ∀ c ∈ ([c0] : List Nat), c < 256 := by simp; omega
      refine r_callIW (rt := none) (pc' := 59) (argsL := [.ref ac]) B D (by omega) (c_initCL l Z a0 hw n0 h5 cc fv ss (ol.keep Kp all0) (by omega) a ac kc _ (by omega) E Fv _ Fc A' ok (show 1 ≤ 2 by decide) held hcw) (fun vm' hW => EE.warm (hV.keep Kp) hW) d1_56 rfl (w9 hw) (w10 hw) (w8 hw) (w11 hw) rfl (by decide) pd25 (st := [.ref a]) rfl rfl rfl (W := 1) (Nat.le_of_eq rfl) (by decide) (by decide) (by decide) (by decide) (cells' := 4) (slots' := 9) rfl rfl ?_
      rintro _ h9 vm1 ⟨rfl, K1, ⟨b, k, G, nb⟩, I1⟩ x9 D'
      replace D := D'
      replace C := B.ctx D
      show Run _ _ _ _ _ h9 _ _ 59 #[.val (.long z), .second, .val (.int (i32 1)), .val (.int (i32 c0)), .val (.int (i32 c1)), .val (.ref ac)] [.ref a]
      exact r_areturn C d1_59 rfl rfl (by decide) (by decide) (Nat.le_refl _) (fun vm' hW => ⟨⟨a, b, k, _, rfl, G, show 1 ≤ 2 by decide, ok⟩, Kp.trans K1 (allS (Or.inr (by omega)) all0), EE.at I1 hW⟩)
  · intro q
    have e0' : cd = 0 := (i32_eq (b := 0) (by omega) (by decide)).mp q
    subst e0'
    refine Run.touch ?_
    replace C := B.ctx D
    refine r_new C (pc' := 27) d1_24 rfl (w6 hw) (w7 hw) (w8 hw) (by decide) (by decide) ?_
    intro h1 a ga E1 E D1
    have Fv : Fld Z h1 a "java/lang/String" "value" "[B" (.null) := D1 (Or.inr (w34 hw)) (ty := (.array .byte)) (by decide)
    have Fc : Fld Z h1 a "java/lang/String" "coder" "B" (.int 0) := D1 (Or.inr (w32 hw)) (ty := .byte) (by decide)
    have x_h1 := E1.1
    have la := exaLt E
    have Kp := (Keep.refl h0 []).ext E1
    refine r_dup C (pc' := 28) d1_27 rfl rfl ?_
    refine r_iconst C (pc' := 29) (v := 0) d1_28 rfl rfl ?_
    refine r_newarrayV C (pc' := 31) (ty := .char) (m := 0) (cap := 0) d1_29 rfl rfl (w5 hw) rfl (by decide) (by decide) (by decide) (by decide) ?_
    intro h2 ac kc gc E2 A0
    have x2 := E2.1
    replace Kp := Kp.ext E2
    replace E := E.ext E2
    replace Fv := Fv.ext E2
    replace Fc := Fc.ext E2
    have A' : AV Z h2 ac kc .char (([] : List Nat).map vch) (.int 0) := A0
    have ok : ∀ c ∈ ([] : List Nat), c < 256 := by simp
    refine r_callIW (rt := none) (pc' := 34) (argsL := [.ref ac]) B D (by omega) (c_initCL l Z a0 hw n0 h2 cc fv ss (ol.keep Kp all0) (by omega) a ac kc _ (by omega) E Fv _ Fc A' ok (show 0 ≤ 2 by decide) held hcw) (fun vm' hW => EE.warm (hV.keep Kp) hW) d1_31 rfl (w9 hw) (w10 hw) (w8 hw) (w11 hw) rfl (by decide) pd25 (st := [.ref a]) rfl rfl rfl (W := 1) (Nat.le_of_eq rfl) (by decide) (by decide) (by decide) (by decide) (cells' := 4) (slots' := 8) rfl rfl ?_
    rintro _ h9 vm1 ⟨rfl, K1, ⟨b, k, G, nb⟩, I1⟩ x9 D'
    replace D := D'
    replace C := B.ctx D
    show Run _ _ _ _ _ h9 _ _ 34 #[.val (.long z), .second, .val (.int (i32 0)), .val (.int (i32 c0)), .val (.int (i32 c1)), .unset] [.ref a]
    exact r_areturn C d1_34 rfl rfl (by decide) (by decide) (Nat.le_refl _) (fun vm' hW => ⟨⟨a, b, k, _, rfl, G, show 0 ≤ 2 by decide, ok⟩, Kp.trans K1 (allS (Or.inr (by omega)) all0), EE.at I1 hW⟩)
set_option maxRecDepth 65536 in
set_option maxHeartbeats 4000000 in
theorem c_abs (l : Launch) (Z : State) (a0 : Array Value) (hw : ∀ d ∈ tables_1, d.before a0 Z = true) (n0 : Nat) (h0 : Heap) (y : Int32) :
    Con l [] (⟨"java/lang/Math", "abs", "(J)J"⟩ : MethodName) jdk_29_method_61_code 2 (some .long) ({ frames := 0, cells := 0, slots := 0, locals := 0 } : Room) Z #[(.long y.toInt64)] h0 n0 (fun v h => v = some (.long (i64 y.toInt.natAbs)) ∧ h0 = h) := by
  refine enter (Ls := #[.val (.long y.toInt64), .second]) pn40 (fun m => by first | (simp [entryFrame, mkF, argsToLocals, Value.category]; done) | rfl) ?_
  intro K C
  obtain ⟨e1, e2, e3⟩ := i64_abs y
  refine r_lloadN C (pc' := 1) d34_0 rfl rfl ?_
  refine r_lconst C (pc' := 2) (v := 0) d34_1 rfl rfl ?_
  refine r_lcmp_ge C (pt := 11) (pc' := 6) d34_2 d34_3 (by decide) (by decide) rfl ?_ ?_
  · intro q
    have q' : ¬ y < 0 := fun z => q (e3.mpr z)
    rw [e2 q']
    refine r_lloadN C (pc' := 12) d34_11 rfl rfl ?_
    exact r_lreturn C d34_12 (by decide) (by decide) (Nat.zero_le _) (fun _ _ => ⟨rfl, rfl⟩)
  · intro q
    have q' : y < 0 := e3.mp q
    refine r_lloadN C (pc' := 7) d34_6 rfl rfl ?_
    refine r_lneg C (pc' := 8) d34_7 rfl ?_
    rw [e1 q']
    refine r_goto C (pc' := 12) d34_8 (by decide) (by decide) ?_
    exact r_lreturn C d34_12 (by decide) (by decide) (Nat.zero_le _) (fun _ _ => ⟨rfl, rfl⟩)
set_option maxRecDepth 65536 in
set_option maxHeartbeats 4000000 in
theorem c_digits (l : Launch) (Z : State) (a0 : Array Value) (hw : ∀ d ∈ tables_1, d.before a0 Z = true) (n0 : Nat) (h0 : Heap) (N : Nat) (hN : N ≤ 2147483648) :
    Con l [] (⟨"com/example/ranker/ranker/RunFileLinePinLaw", "digits", "(J)I"⟩ : MethodName) method_4_code 3 (some .int) ({ frames := 0, cells := 0, slots := 0, locals := 0 } : Room) Z #[(.long (i64 N))] h0 n0 (fun v h => v = some (.int (i32 (own_dig N).length)) ∧ h0 = h) := by
  refine enter (Ls := #[.val (.long (i64 N)), .second, .unset]) pn41 (fun m => by first | (simp [entryFrame, mkF, argsToLocals, Value.category]; done) | rfl) ?_
  intro K C
  have hl := (own_dlen 9 N).mpr (by omega)
  obtain ⟨D', eD⟩ : ∃ D', D' = (own_dig N).length := ⟨_, rfl⟩
  have hp : 1 ≤ D' := by rw [eD]; exact own_digpos N
  refine r_iconst C (pc' := 1) (v := 1) d35_0 rfl rfl ?_
  refine r_istoreN C (pc' := 2) (Ls' := #[.val (.long (i64 N)), .second, .val (.int (1 : Int32))]) d35_1 rfl rfl ?_
  rw [show (1 : Int32) = i32 (min D' 1) by rw [Nat.min_eq_right hp]; rfl]
  refine r_lloadN C (pc' := 3) d35_2 rfl rfl ?_
  refine r_ldc2J C (pc' := 6) d35_3 rfl (w178 hw) ?_
  have h1 : D' ≤ 1 ↔ N < 10 := by rw [eD]; exact own_dlen 0 N
  refine Run.join (h2 := h0) (cells2 := 0) (slots2 := 0) (pc2 := 12) (Ls2 := #[.val (.long (i64 N)), .second, .val (.int (i32 (min D' 2)))]) (st2 := []) (fun J => ?_) ?_
  ·
    refine r_lcmp_lt C (pt := 12) (pc' := 10) d35_6 d35_7 (by decide) (by decide) rfl ?_ ?_
    · intro q
      have q' : N < 10 := (i64_lt (b := 10) (by omega) (by decide)).mp q
      rw [show min D' 2 = min D' 1 by omega] at J
      exact J
    · intro q
      have q' : ¬ N < 10 := fun z => q ((i64_lt (b := 10) (by omega) (by decide)).mpr z)
      refine r_iconst C (pc' := 11) (v := 2) d35_10 rfl rfl ?_
      refine r_istoreN C (pc' := 12) (Ls' := #[.val (.long (i64 N)), .second, .val (.int (2 : Int32))]) d35_11 rfl rfl ?_
      rw [show min D' 2 = 2 by omega] at J
      exact J
  refine r_lloadN C (pc' := 13) d35_12 rfl rfl ?_
  refine r_ldc2J C (pc' := 16) d35_13 rfl (w179 hw) ?_
  have h2 : D' ≤ 2 ↔ N < 100 := by rw [eD]; exact own_dlen 1 N
  refine Run.join (h2 := h0) (cells2 := 0) (slots2 := 0) (pc2 := 22) (Ls2 := #[.val (.long (i64 N)), .second, .val (.int (i32 (min D' 3)))]) (st2 := []) (fun J => ?_) ?_
  ·
    refine r_lcmp_lt C (pt := 22) (pc' := 20) d35_16 d35_17 (by decide) (by decide) rfl ?_ ?_
    · intro q
      have q' : N < 100 := (i64_lt (b := 100) (by omega) (by decide)).mp q
      rw [show min D' 3 = min D' 2 by omega] at J
      exact J
    · intro q
      have q' : ¬ N < 100 := fun z => q ((i64_lt (b := 100) (by omega) (by decide)).mpr z)
      refine r_iconst C (pc' := 21) (v := 3) d35_20 rfl rfl ?_
      refine r_istoreN C (pc' := 22) (Ls' := #[.val (.long (i64 N)), .second, .val (.int (3 : Int32))]) d35_21 rfl rfl ?_
      rw [show min D' 3 = 3 by omega] at J
      exact J
  refine r_lloadN C (pc' := 23) d35_22 rfl rfl ?_
  refine r_ldc2J C (pc' := 26) d35_23 rfl (w180 hw) ?_
  have h3 : D' ≤ 3 ↔ N < 1000 := by rw [eD]; exact own_dlen 2 N
  refine Run.join (h2 := h0) (cells2 := 0) (slots2 := 0) (pc2 := 32) (Ls2 := #[.val (.long (i64 N)), .second, .val (.int (i32 (min D' 4)))]) (st2 := []) (fun J => ?_) ?_
  ·
    refine r_lcmp_lt C (pt := 32) (pc' := 30) d35_26 d35_27 (by decide) (by decide) rfl ?_ ?_
    · intro q
      have q' : N < 1000 := (i64_lt (b := 1000) (by omega) (by decide)).mp q
      rw [show min D' 4 = min D' 3 by omega] at J
      exact J
    · intro q
      have q' : ¬ N < 1000 := fun z => q ((i64_lt (b := 1000) (by omega) (by decide)).mpr z)
      refine r_iconst C (pc' := 31) (v := 4) d35_30 rfl rfl ?_
      refine r_istoreN C (pc' := 32) (Ls' := #[.val (.long (i64 N)), .second, .val (.int (4 : Int32))]) d35_31 rfl rfl ?_
      rw [show min D' 4 = 4 by omega] at J
      exact J
  refine r_lloadN C (pc' := 33) d35_32 rfl rfl ?_
  refine r_ldc2J C (pc' := 36) d35_33 rfl (w181 hw) ?_
  have h4 : D' ≤ 4 ↔ N < 10000 := by rw [eD]; exact own_dlen 3 N
  refine Run.join (h2 := h0) (cells2 := 0) (slots2 := 0) (pc2 := 42) (Ls2 := #[.val (.long (i64 N)), .second, .val (.int (i32 (min D' 5)))]) (st2 := []) (fun J => ?_) ?_
  ·
    refine r_lcmp_lt C (pt := 42) (pc' := 40) d35_36 d35_37 (by decide) (by decide) rfl ?_ ?_
    · intro q
      have q' : N < 10000 := (i64_lt (b := 10000) (by omega) (by decide)).mp q
      rw [show min D' 5 = min D' 4 by omega] at J
      exact J
    · intro q
      have q' : ¬ N < 10000 := fun z => q ((i64_lt (b := 10000) (by omega) (by decide)).mpr z)
      refine r_iconst C (pc' := 41) (v := 5) d35_40 rfl rfl ?_
      refine r_istoreN C (pc' := 42) (Ls' := #[.val (.long (i64 N)), .second, .val (.int (5 : Int32))]) d35_41 rfl rfl ?_
      rw [show min D' 5 = 5 by omega] at J
      exact J
  refine r_lloadN C (pc' := 43) d35_42 rfl rfl ?_
  refine r_ldc2J C (pc' := 46) d35_43 rfl (w182 hw) ?_
  have h5 : D' ≤ 5 ↔ N < 100000 := by rw [eD]; exact own_dlen 4 N
  refine Run.join (h2 := h0) (cells2 := 0) (slots2 := 0) (pc2 := 53) (Ls2 := #[.val (.long (i64 N)), .second, .val (.int (i32 (min D' 6)))]) (st2 := []) (fun J => ?_) ?_
  ·
    refine r_lcmp_lt C (pt := 53) (pc' := 50) d35_46 d35_47 (by decide) (by decide) rfl ?_ ?_
    · intro q
      have q' : N < 100000 := (i64_lt (b := 100000) (by omega) (by decide)).mp q
      rw [show min D' 6 = min D' 5 by omega] at J
      exact J
    · intro q
      have q' : ¬ N < 100000 := fun z => q ((i64_lt (b := 100000) (by omega) (by decide)).mpr z)
      refine r_bipush C (pc' := 52) (v := (6)) d35_50 rfl rfl ?_
      refine r_istoreN C (pc' := 53) (Ls' := #[.val (.long (i64 N)), .second, .val (.int (6 : Int32))]) d35_52 rfl rfl ?_
      rw [show min D' 6 = 6 by omega] at J
      exact J
  refine r_lloadN C (pc' := 54) d35_53 rfl rfl ?_
  refine r_ldc2J C (pc' := 57) d35_54 rfl (w183 hw) ?_
  have h6 : D' ≤ 6 ↔ N < 1000000 := by rw [eD]; exact own_dlen 5 N
  refine Run.join (h2 := h0) (cells2 := 0) (slots2 := 0) (pc2 := 64) (Ls2 := #[.val (.long (i64 N)), .second, .val (.int (i32 (min D' 7)))]) (st2 := []) (fun J => ?_) ?_
  ·
    refine r_lcmp_lt C (pt := 64) (pc' := 61) d35_57 d35_58 (by decide) (by decide) rfl ?_ ?_
    · intro q
      have q' : N < 1000000 := (i64_lt (b := 1000000) (by omega) (by decide)).mp q
      rw [show min D' 7 = min D' 6 by omega] at J
      exact J
    · intro q
      have q' : ¬ N < 1000000 := fun z => q ((i64_lt (b := 1000000) (by omega) (by decide)).mpr z)
      refine r_bipush C (pc' := 63) (v := (7)) d35_61 rfl rfl ?_
      refine r_istoreN C (pc' := 64) (Ls' := #[.val (.long (i64 N)), .second, .val (.int (7 : Int32))]) d35_63 rfl rfl ?_
      rw [show min D' 7 = 7 by omega] at J
      exact J
  refine r_lloadN C (pc' := 65) d35_64 rfl rfl ?_
  refine r_ldc2J C (pc' := 68) d35_65 rfl (w184 hw) ?_
  have h7 : D' ≤ 7 ↔ N < 10000000 := by rw [eD]; exact own_dlen 6 N
  refine Run.join (h2 := h0) (cells2 := 0) (slots2 := 0) (pc2 := 75) (Ls2 := #[.val (.long (i64 N)), .second, .val (.int (i32 (min D' 8)))]) (st2 := []) (fun J => ?_) ?_
  ·
    refine r_lcmp_lt C (pt := 75) (pc' := 72) d35_68 d35_69 (by decide) (by decide) rfl ?_ ?_
    · intro q
      have q' : N < 10000000 := (i64_lt (b := 10000000) (by omega) (by decide)).mp q
      rw [show min D' 8 = min D' 7 by omega] at J
      exact J
    · intro q
      have q' : ¬ N < 10000000 := fun z => q ((i64_lt (b := 10000000) (by omega) (by decide)).mpr z)
      refine r_bipush C (pc' := 74) (v := (8)) d35_72 rfl rfl ?_
      refine r_istoreN C (pc' := 75) (Ls' := #[.val (.long (i64 N)), .second, .val (.int (8 : Int32))]) d35_74 rfl rfl ?_
      rw [show min D' 8 = 8 by omega] at J
      exact J
  refine r_lloadN C (pc' := 76) d35_75 rfl rfl ?_
  refine r_ldc2J C (pc' := 79) d35_76 rfl (w185 hw) ?_
  have h8 : D' ≤ 8 ↔ N < 100000000 := by rw [eD]; exact own_dlen 7 N
  refine Run.join (h2 := h0) (cells2 := 0) (slots2 := 0) (pc2 := 86) (Ls2 := #[.val (.long (i64 N)), .second, .val (.int (i32 (min D' 9)))]) (st2 := []) (fun J => ?_) ?_
  ·
    refine r_lcmp_lt C (pt := 86) (pc' := 83) d35_79 d35_80 (by decide) (by decide) rfl ?_ ?_
    · intro q
      have q' : N < 100000000 := (i64_lt (b := 100000000) (by omega) (by decide)).mp q
      rw [show min D' 9 = min D' 8 by omega] at J
      exact J
    · intro q
      have q' : ¬ N < 100000000 := fun z => q ((i64_lt (b := 100000000) (by omega) (by decide)).mpr z)
      refine r_bipush C (pc' := 85) (v := (9)) d35_83 rfl rfl ?_
      refine r_istoreN C (pc' := 86) (Ls' := #[.val (.long (i64 N)), .second, .val (.int (9 : Int32))]) d35_85 rfl rfl ?_
      rw [show min D' 9 = 9 by omega] at J
      exact J
  refine r_lloadN C (pc' := 87) d35_86 rfl rfl ?_
  refine r_ldc2J C (pc' := 90) d35_87 rfl (w186 hw) ?_
  have h9 : D' ≤ 9 ↔ N < 1000000000 := by rw [eD]; exact own_dlen 8 N
  refine Run.join (h2 := h0) (cells2 := 0) (slots2 := 0) (pc2 := 97) (Ls2 := #[.val (.long (i64 N)), .second, .val (.int (i32 (min D' 10)))]) (st2 := []) (fun J => ?_) ?_
  ·
    refine r_lcmp_lt C (pt := 97) (pc' := 94) d35_90 d35_91 (by decide) (by decide) rfl ?_ ?_
    · intro q
      have q' : N < 1000000000 := (i64_lt (b := 1000000000) (by omega) (by decide)).mp q
      rw [show min D' 10 = min D' 9 by omega] at J
      exact J
    · intro q
      have q' : ¬ N < 1000000000 := fun z => q ((i64_lt (b := 1000000000) (by omega) (by decide)).mpr z)
      refine r_bipush C (pc' := 96) (v := (10)) d35_94 rfl rfl ?_
      refine r_istoreN C (pc' := 97) (Ls' := #[.val (.long (i64 N)), .second, .val (.int (10 : Int32))]) d35_96 rfl rfl ?_
      rw [show min D' 10 = 10 by omega] at J
      exact J
  refine r_iloadN C (pc' := 98) d35_97 rfl rfl ?_
  rw [show min D' 10 = (own_dig N).length by omega]
  exact r_ireturn C d35_98 (by decide) (by decide) (Nat.zero_le _) (fun _ _ => ⟨rfl, rfl⟩)
set_option maxRecDepth 65536 in
set_option maxHeartbeats 4000000 in
theorem c_same (l : Launch) (Z : State) (a0 : Array Value) (hw : ∀ d ∈ tables_1, d.before a0 Z = true) (n0 : Nat) (h0 : Heap) (cc : Int32) (fv : Value) (ss : own_SS Z cc fv) (ol : Od Z n0 h0) (r rb : Nat) (rk : ClassId) (cs : List Nat) (Rr : St Z h0 r rb rk cs) (off : Nat) (p pb : Nat) (pk : ClassId) (ds : List Nat) (P : St Z h0 p pb pk ds) (h2 : ds.length ≤ 2) (hds : ∀ c ∈ ds, c < 256) (hsub : ∀ i c, ds[i]? = some c → cs[off + i]? = some c) :
    Con l [] (⟨"com/example/ranker/ranker/RunFileLinePinLaw", "same", "(Ljava/lang/String;ILjava/lang/String;)Z"⟩ : MethodName) method_6_code 3 (some .boolean) ({ frames := 4, cells := 0, slots := 0, locals := 54 } : Room) Z #[(.ref r), (.int (i32 off)), (.ref p)] h0 n0 (fun v h => v = some (.int 1) ∧ h0 = h) := by
  refine enter (Ls := #[.val (.ref r), .val (.int (i32 off)), .val (.ref p)]) pn42 (fun m => by first | (simp [entryFrame, mkF, argsToLocals, Value.category]; done) | rfl) ?_
  intro K C
  have st0 : ∀ c, ds[0]? = some c → c < 256 ∧ cs[off + 0]? = some c := fun c hc => ⟨hds c (List.mem_of_getElem? hc), hsub 0 c hc⟩
  have st1 : ∀ c, ds[1]? = some c → c < 256 ∧ cs[off + 1]? = some c := fun c hc => ⟨hds c (List.mem_of_getElem? hc), hsub 1 c hc⟩
  have p1 : Run l ({ frames := 4, cells := 0, slots := 0, locals := 54 } : Room) n0 (fun v h _ => v = some (.int 1) ∧ h0 = h) K h0 0 0 22 #[.val (.ref r), .val (.int (i32 off)), .val (.ref p)] [] := by
    refine r_aloadN C (pc' := 23) d36_22 rfl rfl rfl ?_
    refine r_callV C (pc' := 26) (argsL := []) (c_length l Z a0 hw n0 h0 cc fv ss ol p pb pk ds P) P.1 d36_23 rfl (w187 hw) (w71 hw) (nfSel (z := ({ cls := "java/lang/String", name := "length", desc := "()I" } : Jvm.MethodName)) (w73 hw)) (w73 hw) (w72 hw) (w8 hw) (w74 hw) (by decide) pd8 (st := []) rfl rfl rfl (W := 0) (Nat.le_of_eq rfl) (by decide) (by decide) (by decide) (by decide) (cells' := 0) (slots' := 0) rfl rfl ?_
    rintro _ _ ⟨rfl, rfl⟩
    show Run _ _ _ _ _ _ _ _ 26 #[.val (.ref r), .val (.int (i32 off)), .val (.ref p)] [.int (i32 ds.length)]
    refine r_iconst C (pc' := 27) (v := 1) d36_26 rfl rfl ?_
    refine r_icmp_le C (pt := 47) (pc' := 30) d36_27 (by decide) (by decide) rfl ?_ ?_
    · intro q
      refine r_iconst C (pc' := 48) (v := 1) d36_47 rfl rfl ?_
      exact r_zreturn C d36_48 rfl (by decide) (by decide) (Nat.zero_le _) (fun _ _ => ⟨rfl, rfl⟩)
    · intro q
      have q' : 1 < ds.length := (i32_lt (a := 1) (by decide) (by omega)).mp q
      obtain ⟨c, hc⟩ : ∃ c, ds[1]? = some c := ⟨_, List.getElem?_eq_getElem q'⟩
      obtain ⟨hb, hc2⟩ := st1 c hc
      refine r_aloadN C (pc' := 31) d36_30 rfl rfl rfl ?_
      refine r_iloadN C (pc' := 32) d36_31 rfl rfl ?_
      refine r_iconst C (pc' := 33) (v := 1) d36_32 rfl rfl ?_
      refine r_iadd C (pc' := 34) d36_33 rfl ?_
      rw [show i32 off + (1 : Int32) = i32 (off + 1) from i32_add off 1]
      refine r_callV C (pc' := 37) (argsL := [.int (i32 (off + 1))]) (c_charAt l Z a0 hw n0 _ cc fv ss ol r rb rk cs Rr (off + 1) c hc2 hb) Rr.1 d36_34 rfl (w191 hw) (w192 hw) (nfSel (z := ({ cls := "java/lang/String", name := "charAt", desc := "(I)C" } : Jvm.MethodName)) (w194 hw)) (w194 hw) (w193 hw) (w8 hw) (w195 hw) (by decide) pd26 (st := []) rfl rfl rfl (W := 0) (Nat.le_of_eq rfl) (by decide) (by decide) (by decide) (by decide) (cells' := 0) (slots' := 0) rfl rfl ?_
      rintro _ _ ⟨rfl, rfl⟩
      show Run _ _ _ _ _ _ _ _ 37 #[.val (.ref r), .val (.int (i32 off)), .val (.ref p)] [.int (i32 c)]
      refine r_aloadN C (pc' := 38) d36_37 rfl rfl rfl ?_
      refine r_iconst C (pc' := 39) (v := 1) d36_38 rfl rfl ?_
      refine r_callV C (pc' := 42) (argsL := [.int (1 : Int32)]) (c_charAt l Z a0 hw n0 _ cc fv ss ol p pb pk ds P 1 c hc hb) P.1 d36_39 rfl (w191 hw) (w192 hw) (nfSel (z := ({ cls := "java/lang/String", name := "charAt", desc := "(I)C" } : Jvm.MethodName)) (w194 hw)) (w194 hw) (w193 hw) (w8 hw) (w195 hw) (by decide) pd26 (st := [.int (i32 c)]) rfl rfl rfl (W := 1) (Nat.le_of_eq rfl) (by decide) (by decide) (by decide) (by decide) (cells' := 0) (slots' := 0) rfl rfl ?_
      rintro _ _ ⟨rfl, rfl⟩
      show Run _ _ _ _ _ _ _ _ 42 #[.val (.ref r), .val (.int (i32 off)), .val (.ref p)] [.int (i32 c), .int (i32 c)]
      refine r_icmp_eq_t C (pc' := 47) d36_42 (by decide) (by decide) rfl ?_
      refine r_iconst C (pc' := 48) (v := 1) d36_47 rfl rfl ?_
      exact r_zreturn C d36_48 rfl (by decide) (by decide) (Nat.zero_le _) (fun _ _ => ⟨rfl, rfl⟩)
  have p0 : Run l ({ frames := 4, cells := 0, slots := 0, locals := 54 } : Room) n0 (fun v h _ => v = some (.int 1) ∧ h0 = h) K h0 0 0 0 #[.val (.ref r), .val (.int (i32 off)), .val (.ref p)] [] := by
    refine r_aloadN C (pc' := 1) d36_0 rfl rfl rfl ?_
    refine r_callV C (pc' := 4) (argsL := []) (c_length l Z a0 hw n0 h0 cc fv ss ol p pb pk ds P) P.1 d36_1 rfl (w187 hw) (w71 hw) (nfSel (z := ({ cls := "java/lang/String", name := "length", desc := "()I" } : Jvm.MethodName)) (w73 hw)) (w73 hw) (w72 hw) (w8 hw) (w74 hw) (by decide) pd8 (st := []) rfl rfl rfl (W := 0) (Nat.le_of_eq rfl) (by decide) (by decide) (by decide) (by decide) (cells' := 0) (slots' := 0) rfl rfl ?_
    rintro _ _ ⟨rfl, rfl⟩
    show Run _ _ _ _ _ _ _ _ 4 #[.val (.ref r), .val (.int (i32 off)), .val (.ref p)] [.int (i32 ds.length)]
    refine r_if_le C (pt := 22) (pc' := 7) d36_4 (by decide) (by decide) rfl ?_ ?_
    · intro q
      exact p1
    · intro q
      have q' : 0 < ds.length := (i32_lt (a := 0) (by decide) (by omega)).mp q
      obtain ⟨c, hc⟩ : ∃ c, ds[0]? = some c := ⟨_, List.getElem?_eq_getElem q'⟩
      obtain ⟨hb, hc2⟩ := st0 c hc
      refine r_aloadN C (pc' := 8) d36_7 rfl rfl rfl ?_
      refine r_iloadN C (pc' := 9) d36_8 rfl rfl ?_
      refine r_callV C (pc' := 12) (argsL := [.int (i32 off)]) (c_charAt l Z a0 hw n0 _ cc fv ss ol r rb rk cs Rr (off + 0) c hc2 hb) Rr.1 d36_9 rfl (w191 hw) (w192 hw) (nfSel (z := ({ cls := "java/lang/String", name := "charAt", desc := "(I)C" } : Jvm.MethodName)) (w194 hw)) (w194 hw) (w193 hw) (w8 hw) (w195 hw) (by decide) pd26 (st := []) rfl rfl rfl (W := 0) (Nat.le_of_eq rfl) (by decide) (by decide) (by decide) (by decide) (cells' := 0) (slots' := 0) rfl rfl ?_
      rintro _ _ ⟨rfl, rfl⟩
      show Run _ _ _ _ _ _ _ _ 12 #[.val (.ref r), .val (.int (i32 off)), .val (.ref p)] [.int (i32 c)]
      refine r_aloadN C (pc' := 13) d36_12 rfl rfl rfl ?_
      refine r_iconst C (pc' := 14) (v := 0) d36_13 rfl rfl ?_
      refine r_callV C (pc' := 17) (argsL := [.int (0 : Int32)]) (c_charAt l Z a0 hw n0 _ cc fv ss ol p pb pk ds P 0 c hc hb) P.1 d36_14 rfl (w191 hw) (w192 hw) (nfSel (z := ({ cls := "java/lang/String", name := "charAt", desc := "(I)C" } : Jvm.MethodName)) (w194 hw)) (w194 hw) (w193 hw) (w8 hw) (w195 hw) (by decide) pd26 (st := [.int (i32 c)]) rfl rfl rfl (W := 1) (Nat.le_of_eq rfl) (by decide) (by decide) (by decide) (by decide) (cells' := 0) (slots' := 0) rfl rfl ?_
      rintro _ _ ⟨rfl, rfl⟩
      show Run _ _ _ _ _ _ _ _ 17 #[.val (.ref r), .val (.int (i32 off)), .val (.ref p)] [.int (i32 c), .int (i32 c)]
      refine r_icmp_eq_t C (pc' := 22) d36_17 (by decide) (by decide) rfl ?_
      exact p1
  exact p0
set_option maxRecDepth 65536 in
set_option maxHeartbeats 4000000 in
theorem c_dig (l : Launch) (Z : State) (a0 : Array Value) (hw : ∀ d ∈ tables_1, d.before a0 Z = true) (n0 : Nat) (h0 : Heap) (cc : Int32) (fv : Value) (ss : own_SS Z cc fv) (ol : Od Z n0 h0) (r rb : Nat) (rk : ClassId) (cs : List Nat) (Rr : St Z h0 r rb rk cs) (i N P : Nat) (hN : N ≤ 2147483648) (hP : P ≤ 1000000000) (hP0 : P ≠ 0) (hc : cs[i]? = some (48 + N / P % 10)) :
    Con l [] (⟨"com/example/ranker/ranker/RunFileLinePinLaw", "dig", "(Ljava/lang/String;IJJ)Z"⟩ : MethodName) method_5_code 6 (some .boolean) ({ frames := 4, cells := 0, slots := 0, locals := 53 } : Room) Z #[(.ref r), (.int (i32 i)), (.long (i64 N)), (.long (i64 P))] h0 n0 (fun v h => v = some (.int 1) ∧ h0 = h) := by
  refine enter (Ls := #[.val (.ref r), .val (.int (i32 i)), .val (.long (i64 N)), .second, .val (.long (i64 P)), .second]) pn43 (fun m => by first | (simp [entryFrame, mkF, argsToLocals, Value.category]; done) | rfl) ?_
  intro K C
  have hb : 48 + N / P % 10 < 256 := by omega
  refine r_aloadN C (pc' := 1) d42_0 rfl rfl rfl ?_
  refine r_iloadN C (pc' := 2) d42_1 rfl rfl ?_
  refine r_callV C (pc' := 5) (argsL := [.int (i32 i)]) (c_charAt l Z a0 hw n0 h0 cc fv ss ol r rb rk cs Rr i _ hc hb) Rr.1 d42_2 rfl (w191 hw) (w192 hw) (nfSel (z := ({ cls := "java/lang/String", name := "charAt", desc := "(I)C" } : Jvm.MethodName)) (w194 hw)) (w194 hw) (w193 hw) (w8 hw) (w195 hw) (by decide) pd26 (st := []) rfl rfl rfl (W := 0) (Nat.le_of_eq rfl) (by decide) (by decide) (by decide) (by decide) (cells' := 0) (slots' := 0) rfl rfl ?_
  rintro _ _ ⟨rfl, rfl⟩
  show Run _ _ _ _ _ _ _ _ 5 #[.val (.ref r), .val (.int (i32 i)), .val (.long (i64 N)), .second, .val (.long (i64 P)), .second] [.int (i32 (48 + N / P % 10))]
  refine r_bipush C (pc' := 7) (v := (48)) d42_5 rfl rfl ?_
  refine r_lloadN C (pc' := 8) d42_7 rfl rfl ?_
  refine r_lload C (pc' := 10) d42_8 rfl rfl ?_
  refine r_ldiv C (pc' := 11) d42_10 rfl (fun e => hP0 ((i64_eq (b := 0) (by omega) (by decide)).mp e)) ?_
  rw [i64_div (by omega) (by omega)]
  refine r_ldc2J C (pc' := 14) d42_11 rfl (w178 hw) ?_
  have hNP : N / P ≤ N := Nat.div_le_self _ _
  refine r_lrem C (pc' := 15) d42_14 rfl (by decide) ?_
  rw [show i64 (N / P) - (i64 (N / P) / (10 : Int64)) * (10 : Int64) = i64 (N / P % 10) from i64_rem (b := 10) (by omega) (by decide)]
  refine r_l2i C (pc' := 16) d42_15 rfl ?_
  refine r_iadd C (pc' := 17) d42_16 rfl ?_
  refine r_i2c C (pc' := 18) d42_17 rfl ?_
  rw [i32_of64, show (48 : Int32) + i32 (N / P % 10) = i32 (48 + N / P % 10) from i32_add 48 _, own_ch (by omega)]
  refine r_icmp_ne_f C (pc' := 21) d42_18 rfl rfl ?_
  refine r_iconst C (pc' := 22) (v := 1) d42_21 rfl rfl ?_
  refine r_goto C (pc' := 26) d42_22 (by decide) (by decide) ?_
  exact r_zreturn C d42_26 rfl (by decide) (by decide) (Nat.zero_le _) (fun _ _ => ⟨rfl, rfl⟩)
set_option maxRecDepth 65536 in
set_option maxHeartbeats 4000000 in
theorem c_line (l : Launch) (Z : State) (a0 : Array Value) (hw : ∀ d ∈ tables_1, d.before a0 Z = true) (n0 : Nat) (h0 : Heap) (cc : Int32) (fv : Value) (ss : own_SS Z cc fv) (ol : Od Z n0 h0) (hn0 : n0 = h0.size) (t1 t2 : Nat) (q1 q2 : ClassId) (dt : own_DT Z t1 t2 q1 q2) (y : Int32) (sq qb : Nat) (qk : ClassId) (qs : List Nat) (Sq : St Z h0 sq qb qk qs) (hq : qs.length ≤ 2) (sp pb : Nat) (pk : ClassId) (ps : List Nat) (Sp : St Z h0 sp pb pk ps) (hp : ps.length ≤ 2) (sc cb : Nat) (ck : ClassId) (cs : List Nat) (Sc : St Z h0 sc cb ck cs) (hc : cs.length ≤ 2) (su ub : Nat) (uk : ClassId) (ts : List Nat) (Su : St Z h0 su ub uk ts) (hu : ts.length ≤ 2) (hy : (own_num y).length ≤ 11) (held1 : Jvm.Lit.constHeld Z "com/example/ranker/ranker/RunFile" 233) (held2 : Jvm.Lit.constHeld Z "com/example/ranker/ranker/RunFile" 161) (hcw : Jvm.Lit.compactW.before a0 Z = true) :
    ConW l [] (⟨"com/example/ranker/ranker/RunFile", "line", "(Ljava/lang/String;Ljava/lang/String;ILjava/lang/String;Ljava/lang/String;)Ljava/lang/String;"⟩ : MethodName) prog_24_method_5_code 5 (some (.object "java/lang/String")) ({ frames := 6, cells := 17, slots := 392, locals := 113 } : Room) Z #[(.ref sq), (.ref sp), (.int y), (.ref sc), (.ref su)] h0 n0 (fun vm => IB Z vm [""]) (fun v h _ => ∃ (sr rb : Nat) (rk : ClassId), v = some (.ref sr) ∧ Keep h0 h [] ∧ St Z h sr rb rk (own_line qs ps y cs ts)) := by
  refine enterW (Ls := #[.val (.ref sq), .val (.ref sp), .val (.int y), .val (.ref sc), .val (.ref su)]) pn44 (fun m => by first | (simp [entryFrame, mkF, argsToLocals, Value.category]; done) | rfl) ?_
  intro K vm kz B D hkz hV
  have C := B.ctx0 D
  have wS : ∀ a ∈ Bundle.stringAtoms, a.before a0 Z = true := (by intro a ha; simp only [Bundle.stringAtoms, List.mem_cons, List.not_mem_nil, or_false] at ha; rcases ha with rfl | rfl | rfl | rfl | rfl | rfl | rfl <;> first | exact (w8 hw) | exact (w7 hw) | exact (w24 hw) | exact (w34 hw) | exact (w32 hw) | exact (w36 hw) | exact (w37 hw))
  subst hn0
  refine Run.touch ?_
  replace C := B.ctx D
  refine r_new C (pc' := 3) d8_0 rfl (w42 hw) (w43 hw) (w44 hw) (by decide) (by decide) ?_
  intro h1 a ga E1 Ea D1
  have Fv : Fld Z h1 a "java/lang/AbstractStringBuilder" "value" "[B" (.null) := D1 (Or.inl (w57 hw)) (ty := (.array .byte)) (by decide)
  have Fc : Fld Z h1 a "java/lang/AbstractStringBuilder" "coder" "B" (.int 0) := D1 (Or.inl (w59 hw)) (ty := .byte) (by decide)
  have Fn : Fld Z h1 a "java/lang/AbstractStringBuilder" "count" "I" (.int 0) := D1 (Or.inl (w81 hw)) (ty := .int) (by decide)
  have z1 := E1.1
  have Kp := (Keep.refl h0 []).ext E1
  refine r_dup C (pc' := 4) d8_3 rfl rfl ?_
  refine r_callI C (pc' := 7) (argsL := []) (n_sbinit l Z a0 hw _ h1 cc fv ss (ol.ext E1) a (by omega) (by omega) Ea Fv Fc Fn) d8_4 rfl (w45 hw) (w46 hw) (w44 hw) (w47 hw) rfl (by decide) pd27 (st := [.ref a]) rfl rfl rfl (W := 1) (Nat.le_of_eq rfl) (by decide) (by decide) (by decide) (by decide) (cells' := 2) (slots' := 20) rfl rfl ?_
  rintro _ h2 ⟨rfl, K2, b1, k1, Bd1, gb1⟩
  show Run _ _ _ _ _ h2 _ _ 7 #[.val (.ref sq), .val (.ref sp), .val (.int y), .val (.ref sc), .val (.ref su)] [.ref a]
  have z2 := K2.1
  replace Kp := Kp.trans K2 (allS (Or.inr (by omega)) all0)
  replace gb1 : h0.size ≤ b1 := by omega
  refine r_aloadN C (pc' := 8) d8_7 rfl rfl rfl ?_
  obtain ⟨m1, m2, m3, m4⟩ := own_apart (w7 hw) (w43 hw) Bd1 (Sq.keep Kp nin0 nin0) (by omega)
  refine r_callV C (pc' := 11) (argsL := [.ref sq]) (n_sbappend l Z a0 hw _ h2 cc fv ss (ol.keep Kp all0) a b1 k1 _ ([]) Bd1 sq qb qk (qs) (Sq.keep Kp nin0 nin0) (by omega) (by simp only [List.length_append, List.length_cons, List.length_nil]; omega) (by have := Bd1.2.2.2.2.2.1; simp only [List.length_append, List.length_cons, List.length_nil]; omega) (by omega) (by omega) m1 m2 m3 m4) Bd1.1 d8_8 rfl (w60 hw) (w61 hw) (nfSel (z := ({ cls := "java/lang/StringBuilder", name := "append", desc := "(Ljava/lang/String;)Ljava/lang/StringBuilder;" } : Jvm.MethodName)) (w63 hw)) (w63 hw) (w62 hw) (w44 hw) (w64 hw) (by decide) pd28 (st := []) rfl rfl rfl (W := 0) (Nat.le_of_eq rfl) (by decide) (by decide) (by decide) (by decide) (cells' := 3) (slots' := 54) rfl rfl ?_
  rintro _ h3 ⟨rfl, K14, b2, k2, ws2, Bd2, gb2⟩
  show Run _ _ _ _ _ h3 _ _ 11 #[.val (.ref sq), .val (.ref sp), .val (.int y), .val (.ref sc), .val (.ref su)] [.ref a]
  clear m1 m2 m3 m4
  have z4 := K14.1
  replace Kp := Kp.trans K14 (allS (Or.inr (by omega)) (allS (Or.inr (by omega)) all0))
  replace gb2 : h0.size ≤ b2 := by omega
  refine r_ldcSF (n := 16) (bs := ([32, 81, 48, 32].map by8)) (pc' := 13) B (Nat.le_refl _) D (by omega) d8_11 rfl (w107 hw) wS ol.2.2 hV (by decide) held1 hcw ⟨by decide, by first | decide | rfl⟩ (by decide) (by decide) (by decide) (by decide) (by decide) ?_
  intro vm1 kA h4 lA lAb lAk D zkA EA SA IA LA _
  have EAx := EA.1
  replace C := B.ctx D
  replace Kp := Kp.ext EA
  replace Bd2 := Bd2.ext EA
  obtain ⟨m1, m2, m3, m4⟩ := own_apart (w7 hw) (w43 hw) Bd2 SA (by simp)
  refine r_callV C (pc' := 16) (argsL := [.ref lA]) (n_sbappend l Z a0 hw _ h4 cc fv ss (ol.keep Kp all0) a b2 k2 _ ([] ++ qs) Bd2 lA lAb lAk ([32, 81, 48, 32]) SA (by omega) (by simp only [List.length_append, List.length_cons, List.length_nil]; omega) (by have := Bd2.2.2.2.2.2.1; simp only [List.length_append, List.length_cons, List.length_nil]; omega) (by omega) (by omega) m1 m2 m3 m4) Bd2.1 d8_13 rfl (w60 hw) (w61 hw) (nfSel (z := ({ cls := "java/lang/StringBuilder", name := "append", desc := "(Ljava/lang/String;)Ljava/lang/StringBuilder;" } : Jvm.MethodName)) (w63 hw)) (w63 hw) (w62 hw) (w44 hw) (w64 hw) (by decide) pd28 (st := []) rfl rfl rfl (W := 0) (Nat.le_of_eq rfl) (by decide) (by decide) (by decide) (by decide) (cells' := 6) (slots' := 108) rfl rfl ?_
  rintro _ h5 ⟨rfl, K16, b3, k3, ws3, Bd3, gb3⟩
  show Run _ _ _ _ _ h5 _ _ 16 #[.val (.ref sq), .val (.ref sp), .val (.int y), .val (.ref sc), .val (.ref su)] [.ref a]
  clear m1 m2 m3 m4
  have z6 := K16.1
  replace Kp := Kp.trans K16 (allS (Or.inr (by omega)) (allS (Or.inr (by omega)) all0))
  replace gb3 : h0.size ≤ b3 := by omega
  refine r_aloadN C (pc' := 17) d8_16 rfl rfl rfl ?_
  obtain ⟨m1, m2, m3, m4⟩ := own_apart (w7 hw) (w43 hw) Bd3 (Sp.keep Kp nin0 nin0) (by omega)
  refine r_callV C (pc' := 20) (argsL := [.ref sp]) (n_sbappend l Z a0 hw _ h5 cc fv ss (ol.keep Kp all0) a b3 k3 _ (([] ++ qs) ++ [32, 81, 48, 32]) Bd3 sp pb pk (ps) (Sp.keep Kp nin0 nin0) (by omega) (by simp only [List.length_append, List.length_cons, List.length_nil]; omega) (by have := Bd3.2.2.2.2.2.1; simp only [List.length_append, List.length_cons, List.length_nil]; omega) (by omega) (by omega) m1 m2 m3 m4) Bd3.1 d8_17 rfl (w60 hw) (w61 hw) (nfSel (z := ({ cls := "java/lang/StringBuilder", name := "append", desc := "(Ljava/lang/String;)Ljava/lang/StringBuilder;" } : Jvm.MethodName)) (w63 hw)) (w63 hw) (w62 hw) (w44 hw) (w64 hw) (by decide) pd28 (st := []) rfl rfl rfl (W := 0) (Nat.le_of_eq rfl) (by decide) (by decide) (by decide) (by decide) (cells' := 7) (slots' := 142) rfl rfl ?_
  rintro _ h6 ⟨rfl, K17, b4, k4, ws4, Bd4, gb4⟩
  show Run _ _ _ _ _ h6 _ _ 20 #[.val (.ref sq), .val (.ref sp), .val (.int y), .val (.ref sc), .val (.ref su)] [.ref a]
  clear m1 m2 m3 m4
  have z7 := K17.1
  replace Kp := Kp.trans K17 (allS (Or.inr (by omega)) (allS (Or.inr (by omega)) all0))
  replace gb4 : h0.size ≤ b4 := by omega
  refine r_ldcSF (n := 4) (bs := ([32].map by8)) (pc' := 22) B (Nat.le_refl _) D (by omega) d8_20 rfl (w108 hw) wS ol.2.2 IA (by decide) held2 hcw ⟨by decide, by first | decide | rfl⟩ (by decide) (by decide) (by decide) (by decide) (by decide) ?_
  intro vm2 kC h7 lC lCb lCk D zkC EC SC IC LC _
  have ECx := EC.1
  replace C := B.ctx D
  replace Kp := Kp.ext EC
  replace Bd4 := Bd4.ext EC
  have Kc := Keep.refl h7 []
  have lSC := SC.lt
  have zc : h7.size ≤ h7.size := Nat.le_refl _
  obtain ⟨m1', m2', m3', m4'⟩ := own_apart (w7 hw) (w43 hw) Bd4 SC (by simp)
  obtain ⟨m1, m2, m3, m4⟩ := own_apart (w7 hw) (w43 hw) Bd4 SC (by simp)
  refine r_callV C (pc' := 25) (argsL := [.ref lC]) (n_sbappend l Z a0 hw _ h7 cc fv ss (ol.keep Kp all0) a b4 k4 _ ((([] ++ qs) ++ [32, 81, 48, 32]) ++ ps) Bd4 lC lCb lCk ([32]) SC (by omega) (by simp only [List.length_append, List.length_cons, List.length_nil]; omega) (by have := Bd4.2.2.2.2.2.1; simp only [List.length_append, List.length_cons, List.length_nil]; omega) (by omega) (by omega) m1 m2 m3 m4) Bd4.1 d8_22 rfl (w60 hw) (w61 hw) (nfSel (z := ({ cls := "java/lang/StringBuilder", name := "append", desc := "(Ljava/lang/String;)Ljava/lang/StringBuilder;" } : Jvm.MethodName)) (w63 hw)) (w63 hw) (w62 hw) (w44 hw) (w64 hw) (by decide) pd28 (st := []) rfl rfl rfl (W := 0) (Nat.le_of_eq rfl) (by decide) (by decide) (by decide) (by decide) (cells' := 10) (slots' := 184) rfl rfl ?_
  rintro _ h8 ⟨rfl, K19, b5, k5, ws5, Bd5, gb5⟩
  show Run _ _ _ _ _ h8 _ _ 25 #[.val (.ref sq), .val (.ref sp), .val (.int y), .val (.ref sc), .val (.ref su)] [.ref a]
  clear m1 m2 m3 m4
  have z9 := K19.1
  replace Kp := Kp.trans K19 (allS (Or.inr (by omega)) (allS (Or.inr (by omega)) all0))
  replace gb5 : h0.size ≤ b5 := by omega
  replace SC := SC.keep K19 (ninS m1' (ninS m3' nin0)) (ninS m2' (ninS m4' nin0))
  clear m1' m2' m3' m4'
  refine r_iloadN C (pc' := 26) d8_25 rfl rfl ?_
  obtain ⟨m1', m2', m3', m4'⟩ := own_apart (w7 hw) (w43 hw) Bd5 SC (by simp)
  refine r_callV C (pc' := 29) (argsL := [.int y]) (i_sbappI l Z a0 hw _ h8 cc fv ss (ol.keep Kp all0) t1 t2 q1 q2 dt a b5 k5 _ (((([] ++ qs) ++ [32, 81, 48, 32]) ++ ps) ++ [32]) Bd5 y (by omega) (by simp only [List.length_append, List.length_cons, List.length_nil]; omega) (by have := Bd5.2.2.2.2.2.1; simp only [List.length_append, List.length_cons, List.length_nil]; omega) (by omega) (by omega)) Bd5.1 d8_26 rfl (w109 hw) (w110 hw) (nfSel (z := ({ cls := "java/lang/StringBuilder", name := "append", desc := "(I)Ljava/lang/StringBuilder;" } : Jvm.MethodName)) (w112 hw)) (w112 hw) (w111 hw) (w44 hw) (w113 hw) (by decide) pd29 (st := []) rfl rfl rfl (W := 0) (Nat.le_of_eq rfl) (by decide) (by decide) (by decide) (by decide) (cells' := 11) (slots' := 218) rfl rfl ?_
  rintro _ h9 ⟨rfl, K20, b6, k6, ws6, Bd6, gb6⟩
  show Run _ _ _ _ _ h9 _ _ 29 #[.val (.ref sq), .val (.ref sp), .val (.int y), .val (.ref sc), .val (.ref su)] [.ref a]
  have z10 := K20.1
  replace Kp := Kp.trans K20 (allS (Or.inr (by omega)) (allS (Or.inr (by omega)) all0))
  replace gb6 : h0.size ≤ b6 := by omega
  replace SC := SC.keep K20 (ninS m1' (ninS m3' nin0)) (ninS m2' (ninS m4' nin0))
  clear m1' m2' m3' m4'
  refine r_ldcA (pc' := 31) B D d8_29 rfl (w108 hw) LC ?_
  obtain ⟨m1', m2', m3', m4'⟩ := own_apart (w7 hw) (w43 hw) Bd6 SC (by simp)
  obtain ⟨m1, m2, m3, m4⟩ := own_apart (w7 hw) (w43 hw) Bd6 SC (by simp)
  refine r_callV C (pc' := 34) (argsL := [.ref lC]) (n_sbappend l Z a0 hw _ h9 cc fv ss (ol.keep Kp all0) a b6 k6 _ ((((([] ++ qs) ++ [32, 81, 48, 32]) ++ ps) ++ [32]) ++ own_num y) Bd6 lC lCb lCk ([32]) SC (by omega) (by simp only [List.length_append, List.length_cons, List.length_nil]; omega) (by have := Bd6.2.2.2.2.2.1; simp only [List.length_append, List.length_cons, List.length_nil]; omega) (by omega) (by omega) m1 m2 m3 m4) Bd6.1 d8_31 rfl (w60 hw) (w61 hw) (nfSel (z := ({ cls := "java/lang/StringBuilder", name := "append", desc := "(Ljava/lang/String;)Ljava/lang/StringBuilder;" } : Jvm.MethodName)) (w63 hw)) (w63 hw) (w62 hw) (w44 hw) (w64 hw) (by decide) pd28 (st := []) rfl rfl rfl (W := 0) (Nat.le_of_eq rfl) (by decide) (by decide) (by decide) (by decide) (cells' := 12) (slots' := 252) rfl rfl ?_
  rintro _ h10 ⟨rfl, K21, b7, k7, ws7, Bd7, gb7⟩
  show Run _ _ _ _ _ h10 _ _ 34 #[.val (.ref sq), .val (.ref sp), .val (.int y), .val (.ref sc), .val (.ref su)] [.ref a]
  clear m1 m2 m3 m4
  have z11 := K21.1
  replace Kp := Kp.trans K21 (allS (Or.inr (by omega)) (allS (Or.inr (by omega)) all0))
  replace gb7 : h0.size ≤ b7 := by omega
  replace SC := SC.keep K21 (ninS m1' (ninS m3' nin0)) (ninS m2' (ninS m4' nin0))
  clear m1' m2' m3' m4'
  refine r_aloadN C (pc' := 35) d8_34 rfl rfl rfl ?_
  obtain ⟨m1', m2', m3', m4'⟩ := own_apart (w7 hw) (w43 hw) Bd7 SC (by simp)
  obtain ⟨m1, m2, m3, m4⟩ := own_apart (w7 hw) (w43 hw) Bd7 (Sc.keep Kp nin0 nin0) (by omega)
  refine r_callV C (pc' := 38) (argsL := [.ref sc]) (n_sbappend l Z a0 hw _ h10 cc fv ss (ol.keep Kp all0) a b7 k7 _ (((((([] ++ qs) ++ [32, 81, 48, 32]) ++ ps) ++ [32]) ++ own_num y) ++ [32]) Bd7 sc cb ck (cs) (Sc.keep Kp nin0 nin0) (by omega) (by simp only [List.length_append, List.length_cons, List.length_nil]; omega) (by have := Bd7.2.2.2.2.2.1; simp only [List.length_append, List.length_cons, List.length_nil]; omega) (by omega) (by omega) m1 m2 m3 m4) Bd7.1 d8_35 rfl (w60 hw) (w61 hw) (nfSel (z := ({ cls := "java/lang/StringBuilder", name := "append", desc := "(Ljava/lang/String;)Ljava/lang/StringBuilder;" } : Jvm.MethodName)) (w63 hw)) (w63 hw) (w62 hw) (w44 hw) (w64 hw) (by decide) pd28 (st := []) rfl rfl rfl (W := 0) (Nat.le_of_eq rfl) (by decide) (by decide) (by decide) (by decide) (cells' := 13) (slots' := 286) rfl rfl ?_
  rintro _ h11 ⟨rfl, K22, b8, k8, ws8, Bd8, gb8⟩
  show Run _ _ _ _ _ h11 _ _ 38 #[.val (.ref sq), .val (.ref sp), .val (.int y), .val (.ref sc), .val (.ref su)] [.ref a]
  clear m1 m2 m3 m4
  have z12 := K22.1
  replace Kp := Kp.trans K22 (allS (Or.inr (by omega)) (allS (Or.inr (by omega)) all0))
  replace gb8 : h0.size ≤ b8 := by omega
  replace SC := SC.keep K22 (ninS m1' (ninS m3' nin0)) (ninS m2' (ninS m4' nin0))
  clear m1' m2' m3' m4'
  refine r_ldcA (pc' := 40) B D d8_38 rfl (w108 hw) LC ?_
  obtain ⟨m1, m2, m3, m4⟩ := own_apart (w7 hw) (w43 hw) Bd8 SC (by simp)
  refine r_callV C (pc' := 43) (argsL := [.ref lC]) (n_sbappend l Z a0 hw _ h11 cc fv ss (ol.keep Kp all0) a b8 k8 _ ((((((([] ++ qs) ++ [32, 81, 48, 32]) ++ ps) ++ [32]) ++ own_num y) ++ [32]) ++ cs) Bd8 lC lCb lCk ([32]) SC (by omega) (by simp only [List.length_append, List.length_cons, List.length_nil]; omega) (by have := Bd8.2.2.2.2.2.1; simp only [List.length_append, List.length_cons, List.length_nil]; omega) (by omega) (by omega) m1 m2 m3 m4) Bd8.1 d8_40 rfl (w60 hw) (w61 hw) (nfSel (z := ({ cls := "java/lang/StringBuilder", name := "append", desc := "(Ljava/lang/String;)Ljava/lang/StringBuilder;" } : Jvm.MethodName)) (w63 hw)) (w63 hw) (w62 hw) (w44 hw) (w64 hw) (by decide) pd28 (st := []) rfl rfl rfl (W := 0) (Nat.le_of_eq rfl) (by decide) (by decide) (by decide) (by decide) (cells' := 14) (slots' := 320) rfl rfl ?_
  rintro _ h12 ⟨rfl, K23, b9, k9, ws9, Bd9, gb9⟩
  show Run _ _ _ _ _ h12 _ _ 43 #[.val (.ref sq), .val (.ref sp), .val (.int y), .val (.ref sc), .val (.ref su)] [.ref a]
  clear m1 m2 m3 m4
  have z13 := K23.1
  replace Kp := Kp.trans K23 (allS (Or.inr (by omega)) (allS (Or.inr (by omega)) all0))
  replace gb9 : h0.size ≤ b9 := by omega
  refine r_aload C (pc' := 45) d8_43 rfl rfl rfl ?_
  obtain ⟨m1, m2, m3, m4⟩ := own_apart (w7 hw) (w43 hw) Bd9 (Su.keep Kp nin0 nin0) (by omega)
  refine r_callV C (pc' := 48) (argsL := [.ref su]) (n_sbappend l Z a0 hw _ h12 cc fv ss (ol.keep Kp all0) a b9 k9 _ (((((((([] ++ qs) ++ [32, 81, 48, 32]) ++ ps) ++ [32]) ++ own_num y) ++ [32]) ++ cs) ++ [32]) Bd9 su ub uk (ts) (Su.keep Kp nin0 nin0) (by omega) (by simp only [List.length_append, List.length_cons, List.length_nil]; omega) (by have := Bd9.2.2.2.2.2.1; simp only [List.length_append, List.length_cons, List.length_nil]; omega) (by omega) (by omega) m1 m2 m3 m4) Bd9.1 d8_45 rfl (w60 hw) (w61 hw) (nfSel (z := ({ cls := "java/lang/StringBuilder", name := "append", desc := "(Ljava/lang/String;)Ljava/lang/StringBuilder;" } : Jvm.MethodName)) (w63 hw)) (w63 hw) (w62 hw) (w44 hw) (w64 hw) (by decide) pd28 (st := []) rfl rfl rfl (W := 0) (Nat.le_of_eq rfl) (by decide) (by decide) (by decide) (by decide) (cells' := 15) (slots' := 354) rfl rfl ?_
  rintro _ h13 ⟨rfl, K24, b10, k10, ws10, Bd10, gb10⟩
  show Run _ _ _ _ _ h13 _ _ 48 #[.val (.ref sq), .val (.ref sp), .val (.int y), .val (.ref sc), .val (.ref su)] [.ref a]
  clear m1 m2 m3 m4
  have z14 := K24.1
  replace Kp := Kp.trans K24 (allS (Or.inr (by omega)) (allS (Or.inr (by omega)) all0))
  replace gb10 : h0.size ≤ b10 := by omega
  refine r_callV C (pc' := 51) (argsL := []) (n_sbtoString l Z a0 hw _ h13 cc fv ss (ol.keep Kp all0) (by omega) a b10 k10 _ _ Bd10) Bd10.1 d8_48 rfl (w131 hw) (w132 hw) (nfSel (z := ({ cls := "java/lang/StringBuilder", name := "toString", desc := "()Ljava/lang/String;" } : Jvm.MethodName)) (w134 hw)) (w134 hw) (w133 hw) (w44 hw) (w135 hw) (by decide) pd30 (st := []) rfl rfl rfl (W := 0) (Nat.le_of_eq rfl) (by decide) (by decide) (by decide) (by decide) (cells' := 17) (slots' := 392) rfl rfl ?_
  rintro _ h14 ⟨sr, rb, rk, rfl, KZ, SR⟩
  show Run _ _ _ _ _ h14 _ _ 51 #[.val (.ref sq), .val (.ref sp), .val (.int y), .val (.ref sc), .val (.ref su)] [.ref sr]
  have zz := KZ.1
  replace Kp := Kp.trans KZ all0
  have el : (((((((([] ++ qs) ++ [32, 81, 48, 32]) ++ ps) ++ [32]) ++ own_num y) ++ [32]) ++ cs) ++ [32]) ++ ts = own_line qs ps y cs ts := by simp only [own_line, List.append_assoc, List.nil_append]
  rw [el] at SR
  exact r_areturn C d8_51 rfl rfl (by decide) (by decide) (by omega) (fun vm' hW => ⟨sr, rb, rk, rfl, Kp, SR⟩)
set_option maxRecDepth 65536 in
set_option maxHeartbeats 40000000 in
theorem rm0 (l : Launch) (Z : State) (a0 : Array Value) (hw : ∀ d ∈ tables_1, d.before a0 Z = true) (n0 : Nat) (h0 : Heap) (xx yy : Int64) (y z : Int32) (cc : Int32) (fv : Value) (ss : own_SS Z cc fv) (ol : Od Z n0 h0) (t1 t2 : Nat) (q1 q2 : ClassId) (dt : own_DT Z t1 t2 q1 q2) (hn0 : n0 ≤ h0.size) (heldE : Jvm.Lit.constHeld Z "java/lang/String" 7) (held1 : Jvm.Lit.constHeld Z "com/example/ranker/ranker/RunFile" 233) (held2 : Jvm.Lit.constHeld Z "com/example/ranker/ranker/RunFile" 161) (hcw : Jvm.Lit.compactW.before a0 Z = true) :
    ConW l tables_1 x code maxLocals ret room_1 Z #[(.long xx), (.long yy), (.int y), (.int z)] h0 n0 (fun vm => IB Z vm []) (fun v _ _ => v = some (.int 1)) := by
  refine enterW (Ls := #[.val (.long xx), .second, .val (.long yy), .second, .val (.int y), .val (.int z), .unset, .unset, .unset, .unset, .unset, .unset, .unset, .unset, .unset, .unset, .unset, .unset, .unset, .unset, .unset, .unset, .unset, .unset]) pn45 (fun m => by first | (simp [entryFrame, mkF, argsToLocals, Value.category, maxLocals]; done) | rfl) ?_
  intro K vm kz B D hkz hV
  replace B : Wb l room_1 Z "com/example/ranker/ranker/RunFileLinePinLaw" "law" code 24 (some .boolean) n0 h0 K := B
  have C := B.ctx0 D
  obtain ⟨m0, hm0, em0⟩ := i32_andm (z) 3 (by decide)
  obtain ⟨m1, hm1, em1⟩ := i32_andm (XT.ushr z 2) 3 (by decide)
  obtain ⟨m2, hm2, em2⟩ := i32_andm (XT.ushr z 4) 3 (by decide)
  obtain ⟨m3, hm3, em3⟩ := i32_andm (XT.ushr z 6) 3 (by decide)
  refine Run.touch ?_
  replace C := B.ctx D
  refine r_lloadN C (pc' := 1) at_0 rfl rfl ?_
  refine r_iload C (pc' := 3) at_1 rfl rfl ?_
  refine r_iconst C (pc' := 4) (v := 3) at_3 rfl rfl ?_
  refine r_iand C (pc' := 5) at_4 rfl ?_
  rw [show z &&& (3 : Int32) = i32 m0 from em0]
  refine r_callSW (pc' := 8) (argsL := [.long xx, .int (i32 m0)]) B D (by omega) (c_mk l Z a0 hw n0 h0 cc fv ss ol (by omega) xx m0 (by omega) heldE hcw) (fun vm' hW => EE.warm (Or.inl hV) hW) at_5 rfl (w0 hw) (w1 hw) (w2 hw) (w3 hw) (by decide) pd31 (st := []) rfl rfl rfl (W := 0) (Nat.le_of_eq rfl) (by decide) (by decide) (by decide) (by decide) (cells' := 4) (slots' := 10) rfl rfl ?_
  rintro _ h1 vm1 ⟨⟨sq, qb, qk, qs, rfl, Sq, hq, okq⟩, K1, I1⟩ x1 D1
  replace D := D1
  replace C := B.ctx D
  show Run _ _ _ _ _ h1 _ _ 8 #[.val (.long xx), .second, .val (.long yy), .second, .val (.int y), .val (.int z), .unset, .unset, .unset, .unset, .unset, .unset, .unset, .unset, .unset, .unset, .unset, .unset, .unset, .unset, .unset, .unset, .unset, .unset] [.ref sq]
  replace ol := ol.keep K1 all0
  refine r_astore C (pc' := 10) (Ls' := #[.val (.long xx), .second, .val (.long yy), .second, .val (.int y), .val (.int z), .val (.ref sq), .unset, .unset, .unset, .unset, .unset, .unset, .unset, .unset, .unset, .unset, .unset, .unset, .unset, .unset, .unset, .unset, .unset]) at_8 rfl rfl rfl ?_
  refine r_lloadN C (pc' := 11) at_10 rfl rfl ?_
  refine r_bipush C (pc' := 13) (v := (16)) at_11 rfl rfl ?_
  refine r_lushr C (pc' := 14) at_13 rfl ?_
  refine r_iload C (pc' := 16) at_14 rfl rfl ?_
  refine r_iconst C (pc' := 17) (v := 2) at_16 rfl rfl ?_
  refine r_iushr C (pc' := 18) at_17 rfl ?_
  refine r_iconst C (pc' := 19) (v := 3) at_18 rfl rfl ?_
  refine r_iand C (pc' := 20) at_19 rfl ?_
  rw [show XT.ushr z (2 : Int32) &&& (3 : Int32) = i32 m1 from em1]
  refine r_callSW (pc' := 23) (argsL := [.long (XT.ushrL xx (16 : Int32)), .int (i32 m1)]) B D (by omega) (c_mk l Z a0 hw n0 h1 cc fv ss ol (by omega) (XT.ushrL xx (16 : Int32)) m1 (by omega) heldE hcw) (fun vm' hW => EE.warm I1 hW) at_20 rfl (w0 hw) (w1 hw) (w2 hw) (w3 hw) (by decide) pd31 (st := []) rfl rfl rfl (W := 0) (Nat.le_of_eq rfl) (by decide) (by decide) (by decide) (by decide) (cells' := 8) (slots' := 20) rfl rfl ?_
  rintro _ h2 vm2 ⟨⟨sp, pb, pk, ps, rfl, Sp, hp, okp⟩, K2, I2⟩ x2 D2
  replace D := D2
  replace C := B.ctx D
  show Run _ _ _ _ _ h2 _ _ 23 #[.val (.long xx), .second, .val (.long yy), .second, .val (.int y), .val (.int z), .val (.ref sq), .unset, .unset, .unset, .unset, .unset, .unset, .unset, .unset, .unset, .unset, .unset, .unset, .unset, .unset, .unset, .unset, .unset] [.ref sp]
  replace ol := ol.keep K2 all0
  replace Sq := Sq.keep K2 nin0 nin0
  refine r_astore C (pc' := 25) (Ls' := #[.val (.long xx), .second, .val (.long yy), .second, .val (.int y), .val (.int z), .val (.ref sq), .val (.ref sp), .unset, .unset, .unset, .unset, .unset, .unset, .unset, .unset, .unset, .unset, .unset, .unset, .unset, .unset, .unset, .unset]) at_23 rfl rfl rfl ?_
  refine r_lloadN C (pc' := 26) at_25 rfl rfl ?_
  refine r_iload C (pc' := 28) at_26 rfl rfl ?_
  refine r_iconst C (pc' := 29) (v := 4) at_28 rfl rfl ?_
  refine r_iushr C (pc' := 30) at_29 rfl ?_
  refine r_iconst C (pc' := 31) (v := 3) at_30 rfl rfl ?_
  refine r_iand C (pc' := 32) at_31 rfl ?_
  rw [show XT.ushr z (4 : Int32) &&& (3 : Int32) = i32 m2 from em2]
  refine r_callSW (pc' := 35) (argsL := [.long yy, .int (i32 m2)]) B D (by omega) (c_mk l Z a0 hw n0 h2 cc fv ss ol (by omega) yy m2 (by omega) heldE hcw) (fun vm' hW => EE.warm I2 hW) at_32 rfl (w0 hw) (w1 hw) (w2 hw) (w3 hw) (by decide) pd31 (st := []) rfl rfl rfl (W := 0) (Nat.le_of_eq rfl) (by decide) (by decide) (by decide) (by decide) (cells' := 12) (slots' := 30) rfl rfl ?_
  rintro _ h3 vm3 ⟨⟨sc, cb, ck, cs, rfl, Sc, hc, okc⟩, K3, I3⟩ x3 D3
  replace D := D3
  replace C := B.ctx D
  show Run _ _ _ _ _ h3 _ _ 35 #[.val (.long xx), .second, .val (.long yy), .second, .val (.int y), .val (.int z), .val (.ref sq), .val (.ref sp), .unset, .unset, .unset, .unset, .unset, .unset, .unset, .unset, .unset, .unset, .unset, .unset, .unset, .unset, .unset, .unset] [.ref sc]
  replace ol := ol.keep K3 all0
  replace Sq := Sq.keep K3 nin0 nin0
  replace Sp := Sp.keep K3 nin0 nin0
  refine r_astore C (pc' := 37) (Ls' := #[.val (.long xx), .second, .val (.long yy), .second, .val (.int y), .val (.int z), .val (.ref sq), .val (.ref sp), .val (.ref sc), .unset, .unset, .unset, .unset, .unset, .unset, .unset, .unset, .unset, .unset, .unset, .unset, .unset, .unset, .unset]) at_35 rfl rfl rfl ?_
  refine r_lloadN C (pc' := 38) at_37 rfl rfl ?_
  refine r_bipush C (pc' := 40) (v := (16)) at_38 rfl rfl ?_
  refine r_lushr C (pc' := 41) at_40 rfl ?_
  refine r_iload C (pc' := 43) at_41 rfl rfl ?_
  refine r_bipush C (pc' := 45) (v := (6)) at_43 rfl rfl ?_
  refine r_iushr C (pc' := 46) at_45 rfl ?_
  refine r_iconst C (pc' := 47) (v := 3) at_46 rfl rfl ?_
  refine r_iand C (pc' := 48) at_47 rfl ?_
  rw [show XT.ushr z (6 : Int32) &&& (3 : Int32) = i32 m3 from em3]
  refine r_callSW (pc' := 51) (argsL := [.long (XT.ushrL yy (16 : Int32)), .int (i32 m3)]) B D (by omega) (c_mk l Z a0 hw n0 h3 cc fv ss ol (by omega) (XT.ushrL yy (16 : Int32)) m3 (by omega) heldE hcw) (fun vm' hW => EE.warm I3 hW) at_48 rfl (w0 hw) (w1 hw) (w2 hw) (w3 hw) (by decide) pd31 (st := []) rfl rfl rfl (W := 0) (Nat.le_of_eq rfl) (by decide) (by decide) (by decide) (by decide) (cells' := 16) (slots' := 40) rfl rfl ?_
  rintro _ h4 vm4 ⟨⟨su, ub, uk, ts, rfl, Su, hu, oku⟩, K4, I4⟩ x4 D4
  replace D := D4
  replace C := B.ctx D
  show Run _ _ _ _ _ h4 _ _ 51 #[.val (.long xx), .second, .val (.long yy), .second, .val (.int y), .val (.int z), .val (.ref sq), .val (.ref sp), .val (.ref sc), .unset, .unset, .unset, .unset, .unset, .unset, .unset, .unset, .unset, .unset, .unset, .unset, .unset, .unset, .unset] [.ref su]
  replace ol := ol.keep K4 all0
  replace Sq := Sq.keep K4 nin0 nin0
  replace Sp := Sp.keep K4 nin0 nin0
  replace Sc := Sc.keep K4 nin0 nin0
  refine r_astore C (pc' := 53) (Ls' := #[.val (.long xx), .second, .val (.long yy), .second, .val (.int y), .val (.int z), .val (.ref sq), .val (.ref sp), .val (.ref sc), .val (.ref su), .unset, .unset, .unset, .unset, .unset, .unset, .unset, .unset, .unset, .unset, .unset, .unset, .unset, .unset]) at_51 rfl rfl rfl ?_
  refine r_aload C (pc' := 55) at_53 rfl rfl rfl ?_
  refine r_aload C (pc' := 57) at_55 rfl rfl rfl ?_
  refine r_iload C (pc' := 59) at_57 rfl rfl ?_
  refine r_aload C (pc' := 61) at_59 rfl rfl rfl ?_
  refine r_aload C (pc' := 63) at_61 rfl rfl rfl ?_
  refine r_callSW (pc' := 66) (argsL := [.ref sq, .ref sp, .int y, .ref sc, .ref su]) B D (by omega) ((c_line l Z a0 hw h4.size h4 cc fv ss (ol.up (by omega)) rfl t1 t2 q1 q2 dt y sq qb qk qs Sq hq sp pb pk ps Sp hp sc cb ck cs Sc hc su ub uk ts Su hu (own_numLen y).1 held1 held2 hcw).down (by omega)) (fun vm' hW => IB.warm (EE.ib I4) hW) at_63 rfl (w38 hw) (w39 hw) (w40 hw) (w41 hw) (by decide) pd32 (st := []) rfl rfl rfl (W := 0) (Nat.le_of_eq rfl) (by decide) (by decide) (by decide) (by decide) (cells' := 33) (slots' := 432) rfl rfl ?_
  rintro _ h5 vm5 ⟨sr, rb, rk, rfl, K5, SR⟩ x5 D5
  replace D := D5
  replace C := B.ctx D
  show Run _ _ _ _ _ h5 _ _ 66 #[.val (.long xx), .second, .val (.long yy), .second, .val (.int y), .val (.int z), .val (.ref sq), .val (.ref sp), .val (.ref sc), .val (.ref su), .unset, .unset, .unset, .unset, .unset, .unset, .unset, .unset, .unset, .unset, .unset, .unset, .unset, .unset] [.ref sr]
  replace ol := ol.keep K5 all0
  replace Sq := Sq.keep K5 nin0 nin0
  replace Sp := Sp.keep K5 nin0 nin0
  replace Sc := Sc.keep K5 nin0 nin0
  replace Su := Su.keep K5 nin0 nin0
  refine r_astore C (pc' := 68) (Ls' := #[.val (.long xx), .second, .val (.long yy), .second, .val (.int y), .val (.int z), .val (.ref sq), .val (.ref sp), .val (.ref sc), .val (.ref su), .val (.ref sr), .unset, .unset, .unset, .unset, .unset, .unset, .unset, .unset, .unset, .unset, .unset, .unset, .unset]) at_66 rfl rfl rfl ?_
  refine r_iload C (pc' := 70) at_68 rfl rfl ?_
  refine r_i2l C (pc' := 71) at_70 rfl ?_
  refine r_callS C (pc' := 74) (argsL := [.long (y.toInt64)]) (c_abs l Z a0 hw n0 h5 y) at_71 rfl (w172 hw) (w173 hw) (w169 hw) (w174 hw) (by decide) pd33 (st := []) rfl rfl rfl (W := 0) (Nat.le_of_eq rfl) (by decide) (by decide) (by decide) (by decide) (cells' := 33) (slots' := 432) rfl rfl ?_
  rintro _ _ ⟨rfl, rfl⟩
  show Run _ _ _ _ _ h5 _ _ 74 #[.val (.long xx), .second, .val (.long yy), .second, .val (.int y), .val (.int z), .val (.ref sq), .val (.ref sp), .val (.ref sc), .val (.ref su), .val (.ref sr), .unset, .unset, .unset, .unset, .unset, .unset, .unset, .unset, .unset, .unset, .unset, .unset, .unset] [.long (i64 y.toInt.natAbs)]
  have hN : y.toInt.natAbs ≤ 2147483648 := by have := y.le_toInt; have := y.toInt_lt; omega
  obtain ⟨N, eN⟩ : ∃ N, N = y.toInt.natAbs := ⟨_, rfl⟩
  rw [← eN] at hN ⊢
  refine r_lstore C (pc' := 76) (Ls' := #[.val (.long xx), .second, .val (.long yy), .second, .val (.int y), .val (.int z), .val (.ref sq), .val (.ref sp), .val (.ref sc), .val (.ref su), .val (.ref sr), .val (.long (i64 N)), .second, .unset, .unset, .unset, .unset, .unset, .unset, .unset, .unset, .unset, .unset, .unset]) at_74 rfl rfl ?_
  refine r_lload C (pc' := 78) at_76 rfl rfl ?_
  refine r_callS C (pc' := 81) (argsL := [.long (i64 N)]) (c_digits l Z a0 hw n0 h5 N hN) at_78 rfl (w175 hw) (w176 hw) (w2 hw) (w177 hw) (by decide) pd34 (st := []) rfl rfl rfl (W := 0) (Nat.le_of_eq rfl) (by decide) (by decide) (by decide) (by decide) (cells' := 33) (slots' := 432) rfl rfl ?_
  rintro _ _ ⟨rfl, rfl⟩
  show Run _ _ _ _ _ h5 _ _ 81 #[.val (.long xx), .second, .val (.long yy), .second, .val (.int y), .val (.int z), .val (.ref sq), .val (.ref sp), .val (.ref sc), .val (.ref su), .val (.ref sr), .val (.long (i64 N)), .second, .unset, .unset, .unset, .unset, .unset, .unset, .unset, .unset, .unset, .unset, .unset] [.int (i32 (own_dig N).length)]
  have hd10 := (own_dlen 9 N).mpr (by omega)
  obtain ⟨d, ed⟩ : ∃ d, d = (own_dig N).length := ⟨_, rfl⟩
  have hd1 : 1 ≤ d := by rw [ed]; exact own_digpos N
  rw [← ed] at hd10 ⊢
  refine r_istore C (pc' := 83) (Ls' := #[.val (.long xx), .second, .val (.long yy), .second, .val (.int y), .val (.int z), .val (.ref sq), .val (.ref sp), .val (.ref sc), .val (.ref su), .val (.ref sr), .val (.long (i64 N)), .second, .val (.int (i32 d)), .unset, .unset, .unset, .unset, .unset, .unset, .unset, .unset, .unset, .unset]) at_81 rfl rfl ?_
  refine r_iload C (pc' := 85) at_83 rfl rfl ?_
  have hsg := own_numSg y
  obtain ⟨s, es⟩ : ∃ s, s = own_sg y := ⟨_, rfl⟩
  have hs1 : (y < 0 ∧ s = 1) ∨ (¬ y < 0 ∧ s = 0) := by rw [es]; unfold own_sg; split <;> simp_all
  rw [← es, ← eN, ← ed] at hsg
  have hsd : s + d = (own_num y).length := hsg.symm
  refine Run.join (h2 := h5) (cells2 := 33) (slots2 := 432) (pc2 := 93) (Ls2 := #[.val (.long xx), .second, .val (.long yy), .second, .val (.int y), .val (.int z), .val (.ref sq), .val (.ref sp), .val (.ref sc), .val (.ref su), .val (.ref sr), .val (.long (i64 N)), .second, .val (.int (i32 d)), .unset, .unset, .unset, .unset, .unset, .unset, .unset, .unset, .unset, .unset]) (st2 := [.int (i32 s)]) (fun J => ?_) ?_
  ·
    refine r_if_ge C (pt := 92) (pc' := 88) at_85 (by decide) (by decide) rfl ?_ ?_
    · intro q
      obtain rfl : s = 0 := by rcases hs1 with ⟨z, _⟩ | ⟨_, z⟩; exact absurd z q; exact z
      refine r_iconst C (pc' := 93) (v := 0) at_92 rfl rfl ?_
      exact J
    · intro q
      obtain rfl : s = 1 := by rcases hs1 with ⟨_, z⟩ | ⟨z, _⟩; exact z; exact absurd q z
      refine r_iconst C (pc' := 89) (v := 1) at_88 rfl rfl ?_
      refine r_goto C (pc' := 93) at_89 (by decide) (by decide) ?_
      exact J
  refine r_istore C (pc' := 95) (Ls' := #[.val (.long xx), .second, .val (.long yy), .second, .val (.int y), .val (.int z), .val (.ref sq), .val (.ref sp), .val (.ref sc), .val (.ref su), .val (.ref sr), .val (.long (i64 N)), .second, .val (.int (i32 d)), .val (.int (i32 s)), .unset, .unset, .unset, .unset, .unset, .unset, .unset, .unset, .unset]) at_93 rfl rfl ?_
  refine r_aload C (pc' := 97) at_95 rfl rfl rfl ?_
  refine r_callV C (pc' := 100) (argsL := []) (c_length l Z a0 hw n0 h5 cc fv ss ol sq qb qk qs Sq) Sq.1 at_97 rfl (w187 hw) (w71 hw) (nfSel (z := ({ cls := "java/lang/String", name := "length", desc := "()I" } : Jvm.MethodName)) (w73 hw)) (w73 hw) (w72 hw) (w8 hw) (w74 hw) (by decide) pd8 (st := []) rfl rfl rfl (W := 0) (Nat.le_of_eq rfl) (by decide) (by decide) (by decide) (by decide) (cells' := 33) (slots' := 432) rfl rfl ?_
  rintro _ _ ⟨rfl, rfl⟩
  show Run _ _ _ _ _ h5 _ _ 100 #[.val (.long xx), .second, .val (.long yy), .second, .val (.int y), .val (.int z), .val (.ref sq), .val (.ref sp), .val (.ref sc), .val (.ref su), .val (.ref sr), .val (.long (i64 N)), .second, .val (.int (i32 d)), .val (.int (i32 s)), .unset, .unset, .unset, .unset, .unset, .unset, .unset, .unset, .unset] [.int (i32 qs.length)]
  refine r_istore C (pc' := 102) (Ls' := #[.val (.long xx), .second, .val (.long yy), .second, .val (.int y), .val (.int z), .val (.ref sq), .val (.ref sp), .val (.ref sc), .val (.ref su), .val (.ref sr), .val (.long (i64 N)), .second, .val (.int (i32 d)), .val (.int (i32 s)), .val (.int (i32 qs.length)), .unset, .unset, .unset, .unset, .unset, .unset, .unset, .unset]) at_100 rfl rfl ?_
  refine r_aload C (pc' := 104) at_102 rfl rfl rfl ?_
  refine r_callV C (pc' := 107) (argsL := []) (c_length l Z a0 hw n0 h5 cc fv ss ol sp pb pk ps Sp) Sp.1 at_104 rfl (w187 hw) (w71 hw) (nfSel (z := ({ cls := "java/lang/String", name := "length", desc := "()I" } : Jvm.MethodName)) (w73 hw)) (w73 hw) (w72 hw) (w8 hw) (w74 hw) (by decide) pd8 (st := []) rfl rfl rfl (W := 0) (Nat.le_of_eq rfl) (by decide) (by decide) (by decide) (by decide) (cells' := 33) (slots' := 432) rfl rfl ?_
  rintro _ _ ⟨rfl, rfl⟩
  show Run _ _ _ _ _ h5 _ _ 107 #[.val (.long xx), .second, .val (.long yy), .second, .val (.int y), .val (.int z), .val (.ref sq), .val (.ref sp), .val (.ref sc), .val (.ref su), .val (.ref sr), .val (.long (i64 N)), .second, .val (.int (i32 d)), .val (.int (i32 s)), .val (.int (i32 qs.length)), .unset, .unset, .unset, .unset, .unset, .unset, .unset, .unset] [.int (i32 ps.length)]
  refine r_istore C (pc' := 109) (Ls' := #[.val (.long xx), .second, .val (.long yy), .second, .val (.int y), .val (.int z), .val (.ref sq), .val (.ref sp), .val (.ref sc), .val (.ref su), .val (.ref sr), .val (.long (i64 N)), .second, .val (.int (i32 d)), .val (.int (i32 s)), .val (.int (i32 qs.length)), .val (.int (i32 ps.length)), .unset, .unset, .unset, .unset, .unset, .unset, .unset]) at_107 rfl rfl ?_
  refine r_aload C (pc' := 111) at_109 rfl rfl rfl ?_
  refine r_callV C (pc' := 114) (argsL := []) (c_length l Z a0 hw n0 h5 cc fv ss ol sc cb ck cs Sc) Sc.1 at_111 rfl (w187 hw) (w71 hw) (nfSel (z := ({ cls := "java/lang/String", name := "length", desc := "()I" } : Jvm.MethodName)) (w73 hw)) (w73 hw) (w72 hw) (w8 hw) (w74 hw) (by decide) pd8 (st := []) rfl rfl rfl (W := 0) (Nat.le_of_eq rfl) (by decide) (by decide) (by decide) (by decide) (cells' := 33) (slots' := 432) rfl rfl ?_
  rintro _ _ ⟨rfl, rfl⟩
  show Run _ _ _ _ _ h5 _ _ 114 #[.val (.long xx), .second, .val (.long yy), .second, .val (.int y), .val (.int z), .val (.ref sq), .val (.ref sp), .val (.ref sc), .val (.ref su), .val (.ref sr), .val (.long (i64 N)), .second, .val (.int (i32 d)), .val (.int (i32 s)), .val (.int (i32 qs.length)), .val (.int (i32 ps.length)), .unset, .unset, .unset, .unset, .unset, .unset, .unset] [.int (i32 cs.length)]
  refine r_istore C (pc' := 116) (Ls' := #[.val (.long xx), .second, .val (.long yy), .second, .val (.int y), .val (.int z), .val (.ref sq), .val (.ref sp), .val (.ref sc), .val (.ref su), .val (.ref sr), .val (.long (i64 N)), .second, .val (.int (i32 d)), .val (.int (i32 s)), .val (.int (i32 qs.length)), .val (.int (i32 ps.length)), .val (.int (i32 cs.length)), .unset, .unset, .unset, .unset, .unset, .unset]) at_114 rfl rfl ?_
  refine r_aload C (pc' := 118) at_116 rfl rfl rfl ?_
  refine r_callV C (pc' := 121) (argsL := []) (c_length l Z a0 hw n0 h5 cc fv ss ol su ub uk ts Su) Su.1 at_118 rfl (w187 hw) (w71 hw) (nfSel (z := ({ cls := "java/lang/String", name := "length", desc := "()I" } : Jvm.MethodName)) (w73 hw)) (w73 hw) (w72 hw) (w8 hw) (w74 hw) (by decide) pd8 (st := []) rfl rfl rfl (W := 0) (Nat.le_of_eq rfl) (by decide) (by decide) (by decide) (by decide) (cells' := 33) (slots' := 432) rfl rfl ?_
  rintro _ _ ⟨rfl, rfl⟩
  show Run _ _ _ _ _ h5 _ _ 121 #[.val (.long xx), .second, .val (.long yy), .second, .val (.int y), .val (.int z), .val (.ref sq), .val (.ref sp), .val (.ref sc), .val (.ref su), .val (.ref sr), .val (.long (i64 N)), .second, .val (.int (i32 d)), .val (.int (i32 s)), .val (.int (i32 qs.length)), .val (.int (i32 ps.length)), .val (.int (i32 cs.length)), .unset, .unset, .unset, .unset, .unset, .unset] [.int (i32 ts.length)]
  refine r_istore C (pc' := 123) (Ls' := #[.val (.long xx), .second, .val (.long yy), .second, .val (.int y), .val (.int z), .val (.ref sq), .val (.ref sp), .val (.ref sc), .val (.ref su), .val (.ref sr), .val (.long (i64 N)), .second, .val (.int (i32 d)), .val (.int (i32 s)), .val (.int (i32 qs.length)), .val (.int (i32 ps.length)), .val (.int (i32 cs.length)), .val (.int (i32 ts.length)), .unset, .unset, .unset, .unset, .unset]) at_121 rfl rfl ?_
  refine r_iload C (pc' := 125) at_123 rfl rfl ?_
  refine r_iconst C (pc' := 126) (v := 4) at_125 rfl rfl ?_
  refine r_iadd C (pc' := 127) at_126 rfl ?_
  refine r_iload C (pc' := 129) at_127 rfl rfl ?_
  refine r_iadd C (pc' := 130) at_129 rfl ?_
  rw [show i32 qs.length + (4 : Int32) = i32 (qs.length + 4) from i32_add _ 4, i32_add]
  refine r_istore C (pc' := 132) (Ls' := #[.val (.long xx), .second, .val (.long yy), .second, .val (.int y), .val (.int z), .val (.ref sq), .val (.ref sp), .val (.ref sc), .val (.ref su), .val (.ref sr), .val (.long (i64 N)), .second, .val (.int (i32 d)), .val (.int (i32 s)), .val (.int (i32 qs.length)), .val (.int (i32 ps.length)), .val (.int (i32 cs.length)), .val (.int (i32 ts.length)), .val (.int (i32 (qs.length + 4 + ps.length))), .unset, .unset, .unset, .unset]) at_130 rfl rfl ?_
  refine r_iload C (pc' := 134) at_132 rfl rfl ?_
  refine r_iconst C (pc' := 135) (v := 1) at_134 rfl rfl ?_
  refine r_iadd C (pc' := 136) at_135 rfl ?_
  refine r_iload C (pc' := 138) at_136 rfl rfl ?_
  refine r_iadd C (pc' := 139) at_138 rfl ?_
  refine r_iload C (pc' := 141) at_139 rfl rfl ?_
  refine r_iadd C (pc' := 142) at_141 rfl ?_
  rw [show i32 (qs.length + 4 + ps.length) + (1 : Int32) = i32 (qs.length + 4 + ps.length + 1) from i32_add _ 1, i32_add, i32_add]
  refine r_istore C (pc' := 144) (Ls' := #[.val (.long xx), .second, .val (.long yy), .second, .val (.int y), .val (.int z), .val (.ref sq), .val (.ref sp), .val (.ref sc), .val (.ref su), .val (.ref sr), .val (.long (i64 N)), .second, .val (.int (i32 d)), .val (.int (i32 s)), .val (.int (i32 qs.length)), .val (.int (i32 ps.length)), .val (.int (i32 cs.length)), .val (.int (i32 ts.length)), .val (.int (i32 (qs.length + 4 + ps.length))), .val (.int (i32 (qs.length + 4 + ps.length + 1 + s + d))), .unset, .unset, .unset]) at_142 rfl rfl ?_
  refine r_iload C (pc' := 146) at_144 rfl rfl ?_
  refine r_iconst C (pc' := 147) (v := 1) at_146 rfl rfl ?_
  refine r_iadd C (pc' := 148) at_147 rfl ?_
  refine r_iload C (pc' := 150) at_148 rfl rfl ?_
  refine r_iadd C (pc' := 151) at_150 rfl ?_
  rw [show i32 (qs.length + 4 + ps.length + 1 + s + d) + (1 : Int32) = i32 (qs.length + 4 + ps.length + 1 + s + d + 1) from i32_add _ 1, i32_add]
  refine r_istore C (pc' := 153) (Ls' := #[.val (.long xx), .second, .val (.long yy), .second, .val (.int y), .val (.int z), .val (.ref sq), .val (.ref sp), .val (.ref sc), .val (.ref su), .val (.ref sr), .val (.long (i64 N)), .second, .val (.int (i32 d)), .val (.int (i32 s)), .val (.int (i32 qs.length)), .val (.int (i32 ps.length)), .val (.int (i32 cs.length)), .val (.int (i32 ts.length)), .val (.int (i32 (qs.length + 4 + ps.length))), .val (.int (i32 (qs.length + 4 + ps.length + 1 + s + d))), .val (.int (i32 (qs.length + 4 + ps.length + 1 + s + d + 1 + cs.length))), .unset, .unset]) at_151 rfl rfl ?_
  refine r_iload C (pc' := 155) at_153 rfl rfl ?_
  refine r_iconst C (pc' := 156) (v := 1) at_155 rfl rfl ?_
  refine r_iadd C (pc' := 157) at_156 rfl ?_
  refine r_iload C (pc' := 159) at_157 rfl rfl ?_
  refine r_iadd C (pc' := 160) at_159 rfl ?_
  rw [show i32 (qs.length + 4 + ps.length + 1 + s + d + 1 + cs.length) + (1 : Int32) = i32 (qs.length + 4 + ps.length + 1 + s + d + 1 + cs.length + 1) from i32_add _ 1, i32_add]
  refine r_istore C (pc' := 162) (Ls' := #[.val (.long xx), .second, .val (.long yy), .second, .val (.int y), .val (.int z), .val (.ref sq), .val (.ref sp), .val (.ref sc), .val (.ref su), .val (.ref sr), .val (.long (i64 N)), .second, .val (.int (i32 d)), .val (.int (i32 s)), .val (.int (i32 qs.length)), .val (.int (i32 ps.length)), .val (.int (i32 cs.length)), .val (.int (i32 ts.length)), .val (.int (i32 (qs.length + 4 + ps.length))), .val (.int (i32 (qs.length + 4 + ps.length + 1 + s + d))), .val (.int (i32 (qs.length + 4 + ps.length + 1 + s + d + 1 + cs.length))), .val (.int (i32 (qs.length + 4 + ps.length + 1 + s + d + 1 + cs.length + 1 + ts.length))), .unset]) at_160 rfl rfl ?_
  refine r_aload C (pc' := 164) at_162 rfl rfl rfl ?_
  have ll := own_lineLen qs ps y cs ts
  refine r_callV C (pc' := 167) (argsL := []) (c_length l Z a0 hw n0 h5 cc fv ss ol sr rb rk _ SR) SR.1 at_164 rfl (w187 hw) (w71 hw) (nfSel (z := ({ cls := "java/lang/String", name := "length", desc := "()I" } : Jvm.MethodName)) (w73 hw)) (w73 hw) (w72 hw) (w8 hw) (w74 hw) (by decide) pd8 (st := []) rfl rfl rfl (W := 0) (Nat.le_of_eq rfl) (by decide) (by decide) (by decide) (by decide) (cells' := 33) (slots' := 432) rfl rfl ?_
  rintro _ _ ⟨rfl, rfl⟩
  show Run _ _ _ _ _ h5 _ _ 167 #[.val (.long xx), .second, .val (.long yy), .second, .val (.int y), .val (.int z), .val (.ref sq), .val (.ref sp), .val (.ref sc), .val (.ref su), .val (.ref sr), .val (.long (i64 N)), .second, .val (.int (i32 d)), .val (.int (i32 s)), .val (.int (i32 qs.length)), .val (.int (i32 ps.length)), .val (.int (i32 cs.length)), .val (.int (i32 ts.length)), .val (.int (i32 (qs.length + 4 + ps.length))), .val (.int (i32 (qs.length + 4 + ps.length + 1 + s + d))), .val (.int (i32 (qs.length + 4 + ps.length + 1 + s + d + 1 + cs.length))), .val (.int (i32 (qs.length + 4 + ps.length + 1 + s + d + 1 + cs.length + 1 + ts.length))), .unset] [.int (i32 (own_line qs ps y cs ts).length)]
  refine r_iload C (pc' := 169) at_167 rfl rfl ?_
  refine r_icmp_eq_t C (pc' := 174) at_169 (by decide) (by decide) (by rw [ll]; congr 1; omega) ?_
  refine r_aload C (pc' := 176) at_174 rfl rfl rfl ?_
  refine r_iconst C (pc' := 177) (v := 0) at_176 rfl rfl ?_
  refine r_aload C (pc' := 179) at_177 rfl rfl rfl ?_
  refine r_callS C (pc' := 182) (argsL := [.ref sr, .int (0 : Int32), .ref sq]) (c_same l Z a0 hw n0 h5 cc fv ss ol sr rb rk _ SR (0) sq qb qk qs Sq hq okq own_lineQ) at_179 rfl (w188 hw) (w189 hw) (w2 hw) (w190 hw) (by decide) pd35 (st := []) rfl rfl rfl (W := 0) (Nat.le_of_eq rfl) (by decide) (by decide) (by decide) (by decide) (cells' := 33) (slots' := 432) rfl rfl ?_
  rintro _ _ ⟨rfl, rfl⟩
  show Run _ _ _ _ _ h5 _ _ 182 #[.val (.long xx), .second, .val (.long yy), .second, .val (.int y), .val (.int z), .val (.ref sq), .val (.ref sp), .val (.ref sc), .val (.ref su), .val (.ref sr), .val (.long (i64 N)), .second, .val (.int (i32 d)), .val (.int (i32 s)), .val (.int (i32 qs.length)), .val (.int (i32 ps.length)), .val (.int (i32 cs.length)), .val (.int (i32 ts.length)), .val (.int (i32 (qs.length + 4 + ps.length))), .val (.int (i32 (qs.length + 4 + ps.length + 1 + s + d))), .val (.int (i32 (qs.length + 4 + ps.length + 1 + s + d + 1 + cs.length))), .val (.int (i32 (qs.length + 4 + ps.length + 1 + s + d + 1 + cs.length + 1 + ts.length))), .unset] [.int (1 : Int32)]
  refine r_if_ne_t C (pc' := 187) at_182 (by decide) (by decide) (by decide) ?_
  refine r_aload C (pc' := 189) at_187 rfl rfl rfl ?_
  refine r_iload C (pc' := 191) at_189 rfl rfl ?_
  refine r_callV C (pc' := 194) (argsL := [.int (i32 qs.length)]) (c_charAt l Z a0 hw n0 h5 cc fv ss ol sr rb rk _ SR (qs.length + 0) 32 (own_line1 rfl) (by decide)) SR.1 at_191 rfl (w191 hw) (w192 hw) (nfSel (z := ({ cls := "java/lang/String", name := "charAt", desc := "(I)C" } : Jvm.MethodName)) (w194 hw)) (w194 hw) (w193 hw) (w8 hw) (w195 hw) (by decide) pd26 (st := []) rfl rfl rfl (W := 0) (Nat.le_of_eq rfl) (by decide) (by decide) (by decide) (by decide) (cells' := 33) (slots' := 432) rfl rfl ?_
  rintro _ _ ⟨rfl, rfl⟩
  show Run _ _ _ _ _ h5 _ _ 194 #[.val (.long xx), .second, .val (.long yy), .second, .val (.int y), .val (.int z), .val (.ref sq), .val (.ref sp), .val (.ref sc), .val (.ref su), .val (.ref sr), .val (.long (i64 N)), .second, .val (.int (i32 d)), .val (.int (i32 s)), .val (.int (i32 qs.length)), .val (.int (i32 ps.length)), .val (.int (i32 cs.length)), .val (.int (i32 ts.length)), .val (.int (i32 (qs.length + 4 + ps.length))), .val (.int (i32 (qs.length + 4 + ps.length + 1 + s + d))), .val (.int (i32 (qs.length + 4 + ps.length + 1 + s + d + 1 + cs.length))), .val (.int (i32 (qs.length + 4 + ps.length + 1 + s + d + 1 + cs.length + 1 + ts.length))), .unset] [.int (i32 32)]
  refine r_bipush C (pc' := 196) (v := (32)) at_194 rfl rfl ?_
  refine r_icmp_ne_f C (pc' := 199) at_196 rfl rfl ?_
  refine r_aload C (pc' := 201) at_199 rfl rfl rfl ?_
  refine r_iload C (pc' := 203) at_201 rfl rfl ?_
  refine r_iconst C (pc' := 204) (v := 1) at_203 rfl rfl ?_
  refine r_iadd C (pc' := 205) at_204 rfl ?_
  rw [show i32 qs.length + (1 : Int32) = i32 (qs.length + 1) from i32_add _ 1]
  refine r_callV C (pc' := 208) (argsL := [.int (i32 (qs.length + 1))]) (c_charAt l Z a0 hw n0 h5 cc fv ss ol sr rb rk _ SR (qs.length + 1) 81 (own_line1 rfl) (by decide)) SR.1 at_205 rfl (w191 hw) (w192 hw) (nfSel (z := ({ cls := "java/lang/String", name := "charAt", desc := "(I)C" } : Jvm.MethodName)) (w194 hw)) (w194 hw) (w193 hw) (w8 hw) (w195 hw) (by decide) pd26 (st := []) rfl rfl rfl (W := 0) (Nat.le_of_eq rfl) (by decide) (by decide) (by decide) (by decide) (cells' := 33) (slots' := 432) rfl rfl ?_
  rintro _ _ ⟨rfl, rfl⟩
  show Run _ _ _ _ _ h5 _ _ 208 #[.val (.long xx), .second, .val (.long yy), .second, .val (.int y), .val (.int z), .val (.ref sq), .val (.ref sp), .val (.ref sc), .val (.ref su), .val (.ref sr), .val (.long (i64 N)), .second, .val (.int (i32 d)), .val (.int (i32 s)), .val (.int (i32 qs.length)), .val (.int (i32 ps.length)), .val (.int (i32 cs.length)), .val (.int (i32 ts.length)), .val (.int (i32 (qs.length + 4 + ps.length))), .val (.int (i32 (qs.length + 4 + ps.length + 1 + s + d))), .val (.int (i32 (qs.length + 4 + ps.length + 1 + s + d + 1 + cs.length))), .val (.int (i32 (qs.length + 4 + ps.length + 1 + s + d + 1 + cs.length + 1 + ts.length))), .unset] [.int (i32 81)]
  refine r_bipush C (pc' := 210) (v := (81)) at_208 rfl rfl ?_
  refine r_icmp_ne_f C (pc' := 213) at_210 rfl rfl ?_
  refine r_aload C (pc' := 215) at_213 rfl rfl rfl ?_
  refine r_iload C (pc' := 217) at_215 rfl rfl ?_
  refine r_iconst C (pc' := 218) (v := 2) at_217 rfl rfl ?_
  refine r_iadd C (pc' := 219) at_218 rfl ?_
  rw [show i32 qs.length + (2 : Int32) = i32 (qs.length + 2) from i32_add _ 2]
  refine r_callV C (pc' := 222) (argsL := [.int (i32 (qs.length + 2))]) (c_charAt l Z a0 hw n0 h5 cc fv ss ol sr rb rk _ SR (qs.length + 2) 48 (own_line1 rfl) (by decide)) SR.1 at_219 rfl (w191 hw) (w192 hw) (nfSel (z := ({ cls := "java/lang/String", name := "charAt", desc := "(I)C" } : Jvm.MethodName)) (w194 hw)) (w194 hw) (w193 hw) (w8 hw) (w195 hw) (by decide) pd26 (st := []) rfl rfl rfl (W := 0) (Nat.le_of_eq rfl) (by decide) (by decide) (by decide) (by decide) (cells' := 33) (slots' := 432) rfl rfl ?_
  rintro _ _ ⟨rfl, rfl⟩
  show Run _ _ _ _ _ h5 _ _ 222 #[.val (.long xx), .second, .val (.long yy), .second, .val (.int y), .val (.int z), .val (.ref sq), .val (.ref sp), .val (.ref sc), .val (.ref su), .val (.ref sr), .val (.long (i64 N)), .second, .val (.int (i32 d)), .val (.int (i32 s)), .val (.int (i32 qs.length)), .val (.int (i32 ps.length)), .val (.int (i32 cs.length)), .val (.int (i32 ts.length)), .val (.int (i32 (qs.length + 4 + ps.length))), .val (.int (i32 (qs.length + 4 + ps.length + 1 + s + d))), .val (.int (i32 (qs.length + 4 + ps.length + 1 + s + d + 1 + cs.length))), .val (.int (i32 (qs.length + 4 + ps.length + 1 + s + d + 1 + cs.length + 1 + ts.length))), .unset] [.int (i32 48)]
  refine r_bipush C (pc' := 224) (v := (48)) at_222 rfl rfl ?_
  refine r_icmp_ne_f C (pc' := 227) at_224 rfl rfl ?_
  refine r_aload C (pc' := 229) at_227 rfl rfl rfl ?_
  refine r_iload C (pc' := 231) at_229 rfl rfl ?_
  refine r_iconst C (pc' := 232) (v := 3) at_231 rfl rfl ?_
  refine r_iadd C (pc' := 233) at_232 rfl ?_
  rw [show i32 qs.length + (3 : Int32) = i32 (qs.length + 3) from i32_add _ 3]
  refine r_callV C (pc' := 236) (argsL := [.int (i32 (qs.length + 3))]) (c_charAt l Z a0 hw n0 h5 cc fv ss ol sr rb rk _ SR (qs.length + 3) 32 (own_line1 rfl) (by decide)) SR.1 at_233 rfl (w191 hw) (w192 hw) (nfSel (z := ({ cls := "java/lang/String", name := "charAt", desc := "(I)C" } : Jvm.MethodName)) (w194 hw)) (w194 hw) (w193 hw) (w8 hw) (w195 hw) (by decide) pd26 (st := []) rfl rfl rfl (W := 0) (Nat.le_of_eq rfl) (by decide) (by decide) (by decide) (by decide) (cells' := 33) (slots' := 432) rfl rfl ?_
  rintro _ _ ⟨rfl, rfl⟩
  show Run _ _ _ _ _ h5 _ _ 236 #[.val (.long xx), .second, .val (.long yy), .second, .val (.int y), .val (.int z), .val (.ref sq), .val (.ref sp), .val (.ref sc), .val (.ref su), .val (.ref sr), .val (.long (i64 N)), .second, .val (.int (i32 d)), .val (.int (i32 s)), .val (.int (i32 qs.length)), .val (.int (i32 ps.length)), .val (.int (i32 cs.length)), .val (.int (i32 ts.length)), .val (.int (i32 (qs.length + 4 + ps.length))), .val (.int (i32 (qs.length + 4 + ps.length + 1 + s + d))), .val (.int (i32 (qs.length + 4 + ps.length + 1 + s + d + 1 + cs.length))), .val (.int (i32 (qs.length + 4 + ps.length + 1 + s + d + 1 + cs.length + 1 + ts.length))), .unset] [.int (i32 32)]
  refine r_bipush C (pc' := 238) (v := (32)) at_236 rfl rfl ?_
  refine r_icmp_eq_t C (pc' := 243) at_238 (by decide) (by decide) rfl ?_
  refine r_aload C (pc' := 245) at_243 rfl rfl rfl ?_
  refine r_iload C (pc' := 247) at_245 rfl rfl ?_
  refine r_iconst C (pc' := 248) (v := 4) at_247 rfl rfl ?_
  refine r_iadd C (pc' := 249) at_248 rfl ?_
  refine r_aload C (pc' := 251) at_249 rfl rfl rfl ?_
  rw [show i32 qs.length + (4 : Int32) = i32 (qs.length + 4) from i32_add _ 4]
  refine r_callS C (pc' := 254) (argsL := [.ref sr, .int (i32 (qs.length + 4)), .ref sp]) (c_same l Z a0 hw n0 h5 cc fv ss ol sr rb rk _ SR (qs.length + 4) sp pb pk ps Sp hp okp own_lineP) at_251 rfl (w188 hw) (w189 hw) (w2 hw) (w190 hw) (by decide) pd35 (st := []) rfl rfl rfl (W := 0) (Nat.le_of_eq rfl) (by decide) (by decide) (by decide) (by decide) (cells' := 33) (slots' := 432) rfl rfl ?_
  rintro _ _ ⟨rfl, rfl⟩
  show Run _ _ _ _ _ h5 _ _ 254 #[.val (.long xx), .second, .val (.long yy), .second, .val (.int y), .val (.int z), .val (.ref sq), .val (.ref sp), .val (.ref sc), .val (.ref su), .val (.ref sr), .val (.long (i64 N)), .second, .val (.int (i32 d)), .val (.int (i32 s)), .val (.int (i32 qs.length)), .val (.int (i32 ps.length)), .val (.int (i32 cs.length)), .val (.int (i32 ts.length)), .val (.int (i32 (qs.length + 4 + ps.length))), .val (.int (i32 (qs.length + 4 + ps.length + 1 + s + d))), .val (.int (i32 (qs.length + 4 + ps.length + 1 + s + d + 1 + cs.length))), .val (.int (i32 (qs.length + 4 + ps.length + 1 + s + d + 1 + cs.length + 1 + ts.length))), .unset] [.int (1 : Int32)]
  refine r_if_ne_t C (pc' := 259) at_254 (by decide) (by decide) (by decide) ?_
  refine r_aload C (pc' := 261) at_259 rfl rfl rfl ?_
  refine r_iload C (pc' := 263) at_261 rfl rfl ?_
  refine r_callV C (pc' := 266) (argsL := [.int (i32 (qs.length + 4 + ps.length))]) (c_charAt l Z a0 hw n0 h5 cc fv ss ol sr rb rk _ SR (qs.length + 4 + ps.length) 32 own_line2 (by decide)) SR.1 at_263 rfl (w191 hw) (w192 hw) (nfSel (z := ({ cls := "java/lang/String", name := "charAt", desc := "(I)C" } : Jvm.MethodName)) (w194 hw)) (w194 hw) (w193 hw) (w8 hw) (w195 hw) (by decide) pd26 (st := []) rfl rfl rfl (W := 0) (Nat.le_of_eq rfl) (by decide) (by decide) (by decide) (by decide) (cells' := 33) (slots' := 432) rfl rfl ?_
  rintro _ _ ⟨rfl, rfl⟩
  show Run _ _ _ _ _ h5 _ _ 266 #[.val (.long xx), .second, .val (.long yy), .second, .val (.int y), .val (.int z), .val (.ref sq), .val (.ref sp), .val (.ref sc), .val (.ref su), .val (.ref sr), .val (.long (i64 N)), .second, .val (.int (i32 d)), .val (.int (i32 s)), .val (.int (i32 qs.length)), .val (.int (i32 ps.length)), .val (.int (i32 cs.length)), .val (.int (i32 ts.length)), .val (.int (i32 (qs.length + 4 + ps.length))), .val (.int (i32 (qs.length + 4 + ps.length + 1 + s + d))), .val (.int (i32 (qs.length + 4 + ps.length + 1 + s + d + 1 + cs.length))), .val (.int (i32 (qs.length + 4 + ps.length + 1 + s + d + 1 + cs.length + 1 + ts.length))), .unset] [.int (i32 32)]
  refine r_bipush C (pc' := 268) (v := (32)) at_266 rfl rfl ?_
  refine r_icmp_eq_t C (pc' := 273) at_268 (by decide) (by decide) rfl ?_
  refine r_iload C (pc' := 275) at_273 rfl rfl ?_
  refine r_iconst C (pc' := 276) (v := 1) at_275 rfl rfl ?_
  refine Run.join (h2 := h5) (cells2 := 33) (slots2 := 432) (pc2 := 295) (Ls2 := #[.val (.long xx), .second, .val (.long yy), .second, .val (.int y), .val (.int z), .val (.ref sq), .val (.ref sp), .val (.ref sc), .val (.ref su), .val (.ref sr), .val (.long (i64 N)), .second, .val (.int (i32 d)), .val (.int (i32 s)), .val (.int (i32 qs.length)), .val (.int (i32 ps.length)), .val (.int (i32 cs.length)), .val (.int (i32 ts.length)), .val (.int (i32 (qs.length + 4 + ps.length))), .val (.int (i32 (qs.length + 4 + ps.length + 1 + s + d))), .val (.int (i32 (qs.length + 4 + ps.length + 1 + s + d + 1 + cs.length))), .val (.int (i32 (qs.length + 4 + ps.length + 1 + s + d + 1 + cs.length + 1 + ts.length))), .unset]) (st2 := []) (fun J => ?_) ?_
  ·
    refine r_icmp_ne C (pt := 295) (pc' := 279) at_276 (by decide) (by decide) rfl ?_ ?_
    · intro q
      exact J
    · intro q
      have q' : s = 1 := (i32_eq (b := 1) (by omega) (by decide)).mp q
      refine r_aload C (pc' := 281) at_279 rfl rfl rfl ?_
      refine r_iload C (pc' := 283) at_281 rfl rfl ?_
      refine r_iconst C (pc' := 284) (v := 1) at_283 rfl rfl ?_
      refine r_iadd C (pc' := 285) at_284 rfl ?_
      rw [show i32 (qs.length + 4 + ps.length) + (1 : Int32) = i32 (qs.length + 4 + ps.length + 1 + 0) from i32_add _ 1]
      refine r_callV C (pc' := 288) (argsL := [.int (i32 (qs.length + 4 + ps.length + 1 + 0))]) (c_charAt l Z a0 hw n0 h5 cc fv ss ol sr rb rk _ SR (qs.length + 4 + ps.length + 1 + 0) 45 (own_lineN (own_numM (by rw [← es]; exact q'))) (by decide)) SR.1 at_285 rfl (w191 hw) (w192 hw) (nfSel (z := ({ cls := "java/lang/String", name := "charAt", desc := "(I)C" } : Jvm.MethodName)) (w194 hw)) (w194 hw) (w193 hw) (w8 hw) (w195 hw) (by decide) pd26 (st := []) rfl rfl rfl (W := 0) (Nat.le_of_eq rfl) (by decide) (by decide) (by decide) (by decide) (cells' := 33) (slots' := 432) rfl rfl ?_
      rintro _ _ ⟨rfl, rfl⟩
      show Run _ _ _ _ _ h5 _ _ 288 #[.val (.long xx), .second, .val (.long yy), .second, .val (.int y), .val (.int z), .val (.ref sq), .val (.ref sp), .val (.ref sc), .val (.ref su), .val (.ref sr), .val (.long (i64 N)), .second, .val (.int (i32 d)), .val (.int (i32 s)), .val (.int (i32 qs.length)), .val (.int (i32 ps.length)), .val (.int (i32 cs.length)), .val (.int (i32 ts.length)), .val (.int (i32 (qs.length + 4 + ps.length))), .val (.int (i32 (qs.length + 4 + ps.length + 1 + s + d))), .val (.int (i32 (qs.length + 4 + ps.length + 1 + s + d + 1 + cs.length))), .val (.int (i32 (qs.length + 4 + ps.length + 1 + s + d + 1 + cs.length + 1 + ts.length))), .unset] [.int (i32 45)]
      refine r_bipush C (pc' := 290) (v := (45)) at_288 rfl rfl ?_
      refine r_icmp_eq_t C (pc' := 295) at_290 (by decide) (by decide) rfl ?_
      exact J
  refine r_aload C (pc' := 297) at_295 rfl rfl rfl ?_
  refine r_iload C (pc' := 299) at_297 rfl rfl ?_
  refine r_iconst C (pc' := 300) (v := 1) at_299 rfl rfl ?_
  refine r_isub C (pc' := 301) at_300 rfl ?_
  rw [show i32 (qs.length + 4 + ps.length + 1 + s + d) - (1 : Int32) = i32 (qs.length + 4 + ps.length + 1 + s + d - 1) from i32_sub (b := 1) (by omega)]
  refine r_lload C (pc' := 303) at_301 rfl rfl ?_
  refine r_lconst C (pc' := 304) (v := 1) at_303 rfl rfl ?_
  refine r_callS C (pc' := 307) (argsL := [.ref sr, .int (i32 (qs.length + 4 + ps.length + 1 + s + d - 1)), .long (i64 N), .long (1 : Int64)]) (c_dig l Z a0 hw n0 h5 cc fv ss ol sr rb rk _ SR (qs.length + 4 + ps.length + 1 + s + d - 1) N 1 hN (by decide) (by decide) (own_lineD (j := 0) eN ed es (by omega))) at_304 rfl (w213 hw) (w214 hw) (w2 hw) (w215 hw) (by decide) pd36 (st := []) rfl rfl rfl (W := 0) (Nat.le_of_eq rfl) (by decide) (by decide) (by decide) (by decide) (cells' := 33) (slots' := 432) rfl rfl ?_
  rintro _ _ ⟨rfl, rfl⟩
  show Run _ _ _ _ _ h5 _ _ 307 #[.val (.long xx), .second, .val (.long yy), .second, .val (.int y), .val (.int z), .val (.ref sq), .val (.ref sp), .val (.ref sc), .val (.ref su), .val (.ref sr), .val (.long (i64 N)), .second, .val (.int (i32 d)), .val (.int (i32 s)), .val (.int (i32 qs.length)), .val (.int (i32 ps.length)), .val (.int (i32 cs.length)), .val (.int (i32 ts.length)), .val (.int (i32 (qs.length + 4 + ps.length))), .val (.int (i32 (qs.length + 4 + ps.length + 1 + s + d))), .val (.int (i32 (qs.length + 4 + ps.length + 1 + s + d + 1 + cs.length))), .val (.int (i32 (qs.length + 4 + ps.length + 1 + s + d + 1 + cs.length + 1 + ts.length))), .unset] [.int (1 : Int32)]
  refine r_istore C (pc' := 309) (Ls' := #[.val (.long xx), .second, .val (.long yy), .second, .val (.int y), .val (.int z), .val (.ref sq), .val (.ref sp), .val (.ref sc), .val (.ref su), .val (.ref sr), .val (.long (i64 N)), .second, .val (.int (i32 d)), .val (.int (i32 s)), .val (.int (i32 qs.length)), .val (.int (i32 ps.length)), .val (.int (i32 cs.length)), .val (.int (i32 ts.length)), .val (.int (i32 (qs.length + 4 + ps.length))), .val (.int (i32 (qs.length + 4 + ps.length + 1 + s + d))), .val (.int (i32 (qs.length + 4 + ps.length + 1 + s + d + 1 + cs.length))), .val (.int (i32 (qs.length + 4 + ps.length + 1 + s + d + 1 + cs.length + 1 + ts.length))), .val (.int (1 : Int32))]) at_307 rfl rfl ?_
  refine r_iload C (pc' := 311) at_309 rfl rfl ?_
  refine r_if_eq_f C (pc' := 314) at_311 rfl (by decide) ?_
  refine r_iload C (pc' := 316) at_314 rfl rfl ?_
  refine r_iconst C (pc' := 317) (v := 2) at_316 rfl rfl ?_
  refine Run.join (h2 := h5) (cells2 := 33) (slots2 := 432) (pc2 := 337) (Ls2 := #[.val (.long xx), .second, .val (.long yy), .second, .val (.int y), .val (.int z), .val (.ref sq), .val (.ref sp), .val (.ref sc), .val (.ref su), .val (.ref sr), .val (.long (i64 N)), .second, .val (.int (i32 d)), .val (.int (i32 s)), .val (.int (i32 qs.length)), .val (.int (i32 ps.length)), .val (.int (i32 cs.length)), .val (.int (i32 ts.length)), .val (.int (i32 (qs.length + 4 + ps.length))), .val (.int (i32 (qs.length + 4 + ps.length + 1 + s + d))), .val (.int (i32 (qs.length + 4 + ps.length + 1 + s + d + 1 + cs.length))), .val (.int (i32 (qs.length + 4 + ps.length + 1 + s + d + 1 + cs.length + 1 + ts.length))), .val (.int (1 : Int32))]) (st2 := []) (fun J => ?_) ?_
  ·
    refine r_icmp_lt C (pt := 337) (pc' := 320) at_317 (by decide) (by decide) rfl ?_ ?_
    · intro q
      exact J
    · intro q
      have q' : 2 ≤ d := Nat.le_of_not_lt (fun z => q ((i32_lt (b := 2) (by omega) (by decide)).mpr z))
      refine r_aload C (pc' := 322) at_320 rfl rfl rfl ?_
      refine r_iload C (pc' := 324) at_322 rfl rfl ?_
      refine r_iconst C (pc' := 325) (v := 2) at_324 rfl rfl ?_
      refine r_isub C (pc' := 326) at_325 rfl ?_
      rw [show i32 (qs.length + 4 + ps.length + 1 + s + d) - (2 : Int32) = i32 (qs.length + 4 + ps.length + 1 + s + d - 2) from i32_sub (b := 2) (by omega)]
      refine r_lload C (pc' := 328) at_326 rfl rfl ?_
      refine r_ldc2J C (pc' := 331) at_328 rfl (w178 hw) ?_
      refine r_callS C (pc' := 334) (argsL := [.ref sr, .int (i32 (qs.length + 4 + ps.length + 1 + s + d - 2)), .long (i64 N), .long (10 : Int64)]) (c_dig l Z a0 hw n0 h5 cc fv ss ol sr rb rk _ SR (qs.length + 4 + ps.length + 1 + s + d - 2) N 10 hN (by decide) (by decide) (own_lineD (j := 1) eN ed es (by omega))) at_331 rfl (w213 hw) (w214 hw) (w2 hw) (w215 hw) (by decide) pd36 (st := []) rfl rfl rfl (W := 0) (Nat.le_of_eq rfl) (by decide) (by decide) (by decide) (by decide) (cells' := 33) (slots' := 432) rfl rfl ?_
      rintro _ _ ⟨rfl, rfl⟩
      show Run _ _ _ _ _ h5 _ _ 334 #[.val (.long xx), .second, .val (.long yy), .second, .val (.int y), .val (.int z), .val (.ref sq), .val (.ref sp), .val (.ref sc), .val (.ref su), .val (.ref sr), .val (.long (i64 N)), .second, .val (.int (i32 d)), .val (.int (i32 s)), .val (.int (i32 qs.length)), .val (.int (i32 ps.length)), .val (.int (i32 cs.length)), .val (.int (i32 ts.length)), .val (.int (i32 (qs.length + 4 + ps.length))), .val (.int (i32 (qs.length + 4 + ps.length + 1 + s + d))), .val (.int (i32 (qs.length + 4 + ps.length + 1 + s + d + 1 + cs.length))), .val (.int (i32 (qs.length + 4 + ps.length + 1 + s + d + 1 + cs.length + 1 + ts.length))), .val (.int (1 : Int32))] [.int (1 : Int32)]
      refine r_if_eq_f C (pc' := 337) at_334 rfl (by decide) ?_
      exact J
  refine r_iconst C (pc' := 338) (v := 1) at_337 rfl rfl ?_
  refine r_goto C (pc' := 342) at_338 (by decide) (by decide) ?_
  refine r_istore C (pc' := 344) (Ls' := #[.val (.long xx), .second, .val (.long yy), .second, .val (.int y), .val (.int z), .val (.ref sq), .val (.ref sp), .val (.ref sc), .val (.ref su), .val (.ref sr), .val (.long (i64 N)), .second, .val (.int (i32 d)), .val (.int (i32 s)), .val (.int (i32 qs.length)), .val (.int (i32 ps.length)), .val (.int (i32 cs.length)), .val (.int (i32 ts.length)), .val (.int (i32 (qs.length + 4 + ps.length))), .val (.int (i32 (qs.length + 4 + ps.length + 1 + s + d))), .val (.int (i32 (qs.length + 4 + ps.length + 1 + s + d + 1 + cs.length))), .val (.int (i32 (qs.length + 4 + ps.length + 1 + s + d + 1 + cs.length + 1 + ts.length))), .val (.int (1 : Int32))]) at_342 rfl rfl ?_
  refine r_iload C (pc' := 346) at_344 rfl rfl ?_
  refine r_if_eq_f C (pc' := 349) at_346 rfl (by decide) ?_
  refine r_iload C (pc' := 351) at_349 rfl rfl ?_
  refine r_iconst C (pc' := 352) (v := 3) at_351 rfl rfl ?_
  refine Run.join (h2 := h5) (cells2 := 33) (slots2 := 432) (pc2 := 372) (Ls2 := #[.val (.long xx), .second, .val (.long yy), .second, .val (.int y), .val (.int z), .val (.ref sq), .val (.ref sp), .val (.ref sc), .val (.ref su), .val (.ref sr), .val (.long (i64 N)), .second, .val (.int (i32 d)), .val (.int (i32 s)), .val (.int (i32 qs.length)), .val (.int (i32 ps.length)), .val (.int (i32 cs.length)), .val (.int (i32 ts.length)), .val (.int (i32 (qs.length + 4 + ps.length))), .val (.int (i32 (qs.length + 4 + ps.length + 1 + s + d))), .val (.int (i32 (qs.length + 4 + ps.length + 1 + s + d + 1 + cs.length))), .val (.int (i32 (qs.length + 4 + ps.length + 1 + s + d + 1 + cs.length + 1 + ts.length))), .val (.int (1 : Int32))]) (st2 := []) (fun J => ?_) ?_
  ·
    refine r_icmp_lt C (pt := 372) (pc' := 355) at_352 (by decide) (by decide) rfl ?_ ?_
    · intro q
      exact J
    · intro q
      have q' : 3 ≤ d := Nat.le_of_not_lt (fun z => q ((i32_lt (b := 3) (by omega) (by decide)).mpr z))
      refine r_aload C (pc' := 357) at_355 rfl rfl rfl ?_
      refine r_iload C (pc' := 359) at_357 rfl rfl ?_
      refine r_iconst C (pc' := 360) (v := 3) at_359 rfl rfl ?_
      refine r_isub C (pc' := 361) at_360 rfl ?_
      rw [show i32 (qs.length + 4 + ps.length + 1 + s + d) - (3 : Int32) = i32 (qs.length + 4 + ps.length + 1 + s + d - 3) from i32_sub (b := 3) (by omega)]
      refine r_lload C (pc' := 363) at_361 rfl rfl ?_
      refine r_ldc2J C (pc' := 366) at_363 rfl (w179 hw) ?_
      refine r_callS C (pc' := 369) (argsL := [.ref sr, .int (i32 (qs.length + 4 + ps.length + 1 + s + d - 3)), .long (i64 N), .long (100 : Int64)]) (c_dig l Z a0 hw n0 h5 cc fv ss ol sr rb rk _ SR (qs.length + 4 + ps.length + 1 + s + d - 3) N 100 hN (by decide) (by decide) (own_lineD (j := 2) eN ed es (by omega))) at_366 rfl (w213 hw) (w214 hw) (w2 hw) (w215 hw) (by decide) pd36 (st := []) rfl rfl rfl (W := 0) (Nat.le_of_eq rfl) (by decide) (by decide) (by decide) (by decide) (cells' := 33) (slots' := 432) rfl rfl ?_
      rintro _ _ ⟨rfl, rfl⟩
      show Run _ _ _ _ _ h5 _ _ 369 #[.val (.long xx), .second, .val (.long yy), .second, .val (.int y), .val (.int z), .val (.ref sq), .val (.ref sp), .val (.ref sc), .val (.ref su), .val (.ref sr), .val (.long (i64 N)), .second, .val (.int (i32 d)), .val (.int (i32 s)), .val (.int (i32 qs.length)), .val (.int (i32 ps.length)), .val (.int (i32 cs.length)), .val (.int (i32 ts.length)), .val (.int (i32 (qs.length + 4 + ps.length))), .val (.int (i32 (qs.length + 4 + ps.length + 1 + s + d))), .val (.int (i32 (qs.length + 4 + ps.length + 1 + s + d + 1 + cs.length))), .val (.int (i32 (qs.length + 4 + ps.length + 1 + s + d + 1 + cs.length + 1 + ts.length))), .val (.int (1 : Int32))] [.int (1 : Int32)]
      refine r_if_eq_f C (pc' := 372) at_369 rfl (by decide) ?_
      exact J
  refine r_iconst C (pc' := 373) (v := 1) at_372 rfl rfl ?_
  refine r_goto C (pc' := 377) at_373 (by decide) (by decide) ?_
  refine r_istore C (pc' := 379) (Ls' := #[.val (.long xx), .second, .val (.long yy), .second, .val (.int y), .val (.int z), .val (.ref sq), .val (.ref sp), .val (.ref sc), .val (.ref su), .val (.ref sr), .val (.long (i64 N)), .second, .val (.int (i32 d)), .val (.int (i32 s)), .val (.int (i32 qs.length)), .val (.int (i32 ps.length)), .val (.int (i32 cs.length)), .val (.int (i32 ts.length)), .val (.int (i32 (qs.length + 4 + ps.length))), .val (.int (i32 (qs.length + 4 + ps.length + 1 + s + d))), .val (.int (i32 (qs.length + 4 + ps.length + 1 + s + d + 1 + cs.length))), .val (.int (i32 (qs.length + 4 + ps.length + 1 + s + d + 1 + cs.length + 1 + ts.length))), .val (.int (1 : Int32))]) at_377 rfl rfl ?_
  refine r_iload C (pc' := 381) at_379 rfl rfl ?_
  refine r_if_eq_f C (pc' := 384) at_381 rfl (by decide) ?_
  refine r_iload C (pc' := 386) at_384 rfl rfl ?_
  refine r_iconst C (pc' := 387) (v := 4) at_386 rfl rfl ?_
  refine Run.join (h2 := h5) (cells2 := 33) (slots2 := 432) (pc2 := 407) (Ls2 := #[.val (.long xx), .second, .val (.long yy), .second, .val (.int y), .val (.int z), .val (.ref sq), .val (.ref sp), .val (.ref sc), .val (.ref su), .val (.ref sr), .val (.long (i64 N)), .second, .val (.int (i32 d)), .val (.int (i32 s)), .val (.int (i32 qs.length)), .val (.int (i32 ps.length)), .val (.int (i32 cs.length)), .val (.int (i32 ts.length)), .val (.int (i32 (qs.length + 4 + ps.length))), .val (.int (i32 (qs.length + 4 + ps.length + 1 + s + d))), .val (.int (i32 (qs.length + 4 + ps.length + 1 + s + d + 1 + cs.length))), .val (.int (i32 (qs.length + 4 + ps.length + 1 + s + d + 1 + cs.length + 1 + ts.length))), .val (.int (1 : Int32))]) (st2 := []) (fun J => ?_) ?_
  ·
    refine r_icmp_lt C (pt := 407) (pc' := 390) at_387 (by decide) (by decide) rfl ?_ ?_
    · intro q
      exact J
    · intro q
      have q' : 4 ≤ d := Nat.le_of_not_lt (fun z => q ((i32_lt (b := 4) (by omega) (by decide)).mpr z))
      refine r_aload C (pc' := 392) at_390 rfl rfl rfl ?_
      refine r_iload C (pc' := 394) at_392 rfl rfl ?_
      refine r_iconst C (pc' := 395) (v := 4) at_394 rfl rfl ?_
      refine r_isub C (pc' := 396) at_395 rfl ?_
      rw [show i32 (qs.length + 4 + ps.length + 1 + s + d) - (4 : Int32) = i32 (qs.length + 4 + ps.length + 1 + s + d - 4) from i32_sub (b := 4) (by omega)]
      refine r_lload C (pc' := 398) at_396 rfl rfl ?_
      refine r_ldc2J C (pc' := 401) at_398 rfl (w180 hw) ?_
      refine r_callS C (pc' := 404) (argsL := [.ref sr, .int (i32 (qs.length + 4 + ps.length + 1 + s + d - 4)), .long (i64 N), .long (1000 : Int64)]) (c_dig l Z a0 hw n0 h5 cc fv ss ol sr rb rk _ SR (qs.length + 4 + ps.length + 1 + s + d - 4) N 1000 hN (by decide) (by decide) (own_lineD (j := 3) eN ed es (by omega))) at_401 rfl (w213 hw) (w214 hw) (w2 hw) (w215 hw) (by decide) pd36 (st := []) rfl rfl rfl (W := 0) (Nat.le_of_eq rfl) (by decide) (by decide) (by decide) (by decide) (cells' := 33) (slots' := 432) rfl rfl ?_
      rintro _ _ ⟨rfl, rfl⟩
      show Run _ _ _ _ _ h5 _ _ 404 #[.val (.long xx), .second, .val (.long yy), .second, .val (.int y), .val (.int z), .val (.ref sq), .val (.ref sp), .val (.ref sc), .val (.ref su), .val (.ref sr), .val (.long (i64 N)), .second, .val (.int (i32 d)), .val (.int (i32 s)), .val (.int (i32 qs.length)), .val (.int (i32 ps.length)), .val (.int (i32 cs.length)), .val (.int (i32 ts.length)), .val (.int (i32 (qs.length + 4 + ps.length))), .val (.int (i32 (qs.length + 4 + ps.length + 1 + s + d))), .val (.int (i32 (qs.length + 4 + ps.length + 1 + s + d + 1 + cs.length))), .val (.int (i32 (qs.length + 4 + ps.length + 1 + s + d + 1 + cs.length + 1 + ts.length))), .val (.int (1 : Int32))] [.int (1 : Int32)]
      refine r_if_eq_f C (pc' := 407) at_404 rfl (by decide) ?_
      exact J
  refine r_iconst C (pc' := 408) (v := 1) at_407 rfl rfl ?_
  refine r_goto C (pc' := 412) at_408 (by decide) (by decide) ?_
  refine r_istore C (pc' := 414) (Ls' := #[.val (.long xx), .second, .val (.long yy), .second, .val (.int y), .val (.int z), .val (.ref sq), .val (.ref sp), .val (.ref sc), .val (.ref su), .val (.ref sr), .val (.long (i64 N)), .second, .val (.int (i32 d)), .val (.int (i32 s)), .val (.int (i32 qs.length)), .val (.int (i32 ps.length)), .val (.int (i32 cs.length)), .val (.int (i32 ts.length)), .val (.int (i32 (qs.length + 4 + ps.length))), .val (.int (i32 (qs.length + 4 + ps.length + 1 + s + d))), .val (.int (i32 (qs.length + 4 + ps.length + 1 + s + d + 1 + cs.length))), .val (.int (i32 (qs.length + 4 + ps.length + 1 + s + d + 1 + cs.length + 1 + ts.length))), .val (.int (1 : Int32))]) at_412 rfl rfl ?_
  refine r_iload C (pc' := 416) at_414 rfl rfl ?_
  refine r_if_eq_f C (pc' := 419) at_416 rfl (by decide) ?_
  refine r_iload C (pc' := 421) at_419 rfl rfl ?_
  refine r_iconst C (pc' := 422) (v := 5) at_421 rfl rfl ?_
  refine Run.join (h2 := h5) (cells2 := 33) (slots2 := 432) (pc2 := 442) (Ls2 := #[.val (.long xx), .second, .val (.long yy), .second, .val (.int y), .val (.int z), .val (.ref sq), .val (.ref sp), .val (.ref sc), .val (.ref su), .val (.ref sr), .val (.long (i64 N)), .second, .val (.int (i32 d)), .val (.int (i32 s)), .val (.int (i32 qs.length)), .val (.int (i32 ps.length)), .val (.int (i32 cs.length)), .val (.int (i32 ts.length)), .val (.int (i32 (qs.length + 4 + ps.length))), .val (.int (i32 (qs.length + 4 + ps.length + 1 + s + d))), .val (.int (i32 (qs.length + 4 + ps.length + 1 + s + d + 1 + cs.length))), .val (.int (i32 (qs.length + 4 + ps.length + 1 + s + d + 1 + cs.length + 1 + ts.length))), .val (.int (1 : Int32))]) (st2 := []) (fun J => ?_) ?_
  ·
    refine r_icmp_lt C (pt := 442) (pc' := 425) at_422 (by decide) (by decide) rfl ?_ ?_
    · intro q
      exact J
    · intro q
      have q' : 5 ≤ d := Nat.le_of_not_lt (fun z => q ((i32_lt (b := 5) (by omega) (by decide)).mpr z))
      refine r_aload C (pc' := 427) at_425 rfl rfl rfl ?_
      refine r_iload C (pc' := 429) at_427 rfl rfl ?_
      refine r_iconst C (pc' := 430) (v := 5) at_429 rfl rfl ?_
      refine r_isub C (pc' := 431) at_430 rfl ?_
      rw [show i32 (qs.length + 4 + ps.length + 1 + s + d) - (5 : Int32) = i32 (qs.length + 4 + ps.length + 1 + s + d - 5) from i32_sub (b := 5) (by omega)]
      refine r_lload C (pc' := 433) at_431 rfl rfl ?_
      refine r_ldc2J C (pc' := 436) at_433 rfl (w181 hw) ?_
      refine r_callS C (pc' := 439) (argsL := [.ref sr, .int (i32 (qs.length + 4 + ps.length + 1 + s + d - 5)), .long (i64 N), .long (10000 : Int64)]) (c_dig l Z a0 hw n0 h5 cc fv ss ol sr rb rk _ SR (qs.length + 4 + ps.length + 1 + s + d - 5) N 10000 hN (by decide) (by decide) (own_lineD (j := 4) eN ed es (by omega))) at_436 rfl (w213 hw) (w214 hw) (w2 hw) (w215 hw) (by decide) pd36 (st := []) rfl rfl rfl (W := 0) (Nat.le_of_eq rfl) (by decide) (by decide) (by decide) (by decide) (cells' := 33) (slots' := 432) rfl rfl ?_
      rintro _ _ ⟨rfl, rfl⟩
      show Run _ _ _ _ _ h5 _ _ 439 #[.val (.long xx), .second, .val (.long yy), .second, .val (.int y), .val (.int z), .val (.ref sq), .val (.ref sp), .val (.ref sc), .val (.ref su), .val (.ref sr), .val (.long (i64 N)), .second, .val (.int (i32 d)), .val (.int (i32 s)), .val (.int (i32 qs.length)), .val (.int (i32 ps.length)), .val (.int (i32 cs.length)), .val (.int (i32 ts.length)), .val (.int (i32 (qs.length + 4 + ps.length))), .val (.int (i32 (qs.length + 4 + ps.length + 1 + s + d))), .val (.int (i32 (qs.length + 4 + ps.length + 1 + s + d + 1 + cs.length))), .val (.int (i32 (qs.length + 4 + ps.length + 1 + s + d + 1 + cs.length + 1 + ts.length))), .val (.int (1 : Int32))] [.int (1 : Int32)]
      refine r_if_eq_f C (pc' := 442) at_439 rfl (by decide) ?_
      exact J
  refine r_iconst C (pc' := 443) (v := 1) at_442 rfl rfl ?_
  refine r_goto C (pc' := 447) at_443 (by decide) (by decide) ?_
  refine r_istore C (pc' := 449) (Ls' := #[.val (.long xx), .second, .val (.long yy), .second, .val (.int y), .val (.int z), .val (.ref sq), .val (.ref sp), .val (.ref sc), .val (.ref su), .val (.ref sr), .val (.long (i64 N)), .second, .val (.int (i32 d)), .val (.int (i32 s)), .val (.int (i32 qs.length)), .val (.int (i32 ps.length)), .val (.int (i32 cs.length)), .val (.int (i32 ts.length)), .val (.int (i32 (qs.length + 4 + ps.length))), .val (.int (i32 (qs.length + 4 + ps.length + 1 + s + d))), .val (.int (i32 (qs.length + 4 + ps.length + 1 + s + d + 1 + cs.length))), .val (.int (i32 (qs.length + 4 + ps.length + 1 + s + d + 1 + cs.length + 1 + ts.length))), .val (.int (1 : Int32))]) at_447 rfl rfl ?_
  refine r_iload C (pc' := 451) at_449 rfl rfl ?_
  refine r_if_eq_f C (pc' := 454) at_451 rfl (by decide) ?_
  refine r_iload C (pc' := 456) at_454 rfl rfl ?_
  refine r_bipush C (pc' := 458) (v := (6)) at_456 rfl rfl ?_
  refine Run.join (h2 := h5) (cells2 := 33) (slots2 := 432) (pc2 := 479) (Ls2 := #[.val (.long xx), .second, .val (.long yy), .second, .val (.int y), .val (.int z), .val (.ref sq), .val (.ref sp), .val (.ref sc), .val (.ref su), .val (.ref sr), .val (.long (i64 N)), .second, .val (.int (i32 d)), .val (.int (i32 s)), .val (.int (i32 qs.length)), .val (.int (i32 ps.length)), .val (.int (i32 cs.length)), .val (.int (i32 ts.length)), .val (.int (i32 (qs.length + 4 + ps.length))), .val (.int (i32 (qs.length + 4 + ps.length + 1 + s + d))), .val (.int (i32 (qs.length + 4 + ps.length + 1 + s + d + 1 + cs.length))), .val (.int (i32 (qs.length + 4 + ps.length + 1 + s + d + 1 + cs.length + 1 + ts.length))), .val (.int (1 : Int32))]) (st2 := []) (fun J => ?_) ?_
  ·
    refine r_icmp_lt C (pt := 479) (pc' := 461) at_458 (by decide) (by decide) rfl ?_ ?_
    · intro q
      exact J
    · intro q
      have q' : 6 ≤ d := Nat.le_of_not_lt (fun z => q ((i32_lt (b := 6) (by omega) (by decide)).mpr z))
      refine r_aload C (pc' := 463) at_461 rfl rfl rfl ?_
      refine r_iload C (pc' := 465) at_463 rfl rfl ?_
      refine r_bipush C (pc' := 467) (v := (6)) at_465 rfl rfl ?_
      refine r_isub C (pc' := 468) at_467 rfl ?_
      rw [show i32 (qs.length + 4 + ps.length + 1 + s + d) - (6 : Int32) = i32 (qs.length + 4 + ps.length + 1 + s + d - 6) from i32_sub (b := 6) (by omega)]
      refine r_lload C (pc' := 470) at_468 rfl rfl ?_
      refine r_ldc2J C (pc' := 473) at_470 rfl (w182 hw) ?_
      refine r_callS C (pc' := 476) (argsL := [.ref sr, .int (i32 (qs.length + 4 + ps.length + 1 + s + d - 6)), .long (i64 N), .long (100000 : Int64)]) (c_dig l Z a0 hw n0 h5 cc fv ss ol sr rb rk _ SR (qs.length + 4 + ps.length + 1 + s + d - 6) N 100000 hN (by decide) (by decide) (own_lineD (j := 5) eN ed es (by omega))) at_473 rfl (w213 hw) (w214 hw) (w2 hw) (w215 hw) (by decide) pd36 (st := []) rfl rfl rfl (W := 0) (Nat.le_of_eq rfl) (by decide) (by decide) (by decide) (by decide) (cells' := 33) (slots' := 432) rfl rfl ?_
      rintro _ _ ⟨rfl, rfl⟩
      show Run _ _ _ _ _ h5 _ _ 476 #[.val (.long xx), .second, .val (.long yy), .second, .val (.int y), .val (.int z), .val (.ref sq), .val (.ref sp), .val (.ref sc), .val (.ref su), .val (.ref sr), .val (.long (i64 N)), .second, .val (.int (i32 d)), .val (.int (i32 s)), .val (.int (i32 qs.length)), .val (.int (i32 ps.length)), .val (.int (i32 cs.length)), .val (.int (i32 ts.length)), .val (.int (i32 (qs.length + 4 + ps.length))), .val (.int (i32 (qs.length + 4 + ps.length + 1 + s + d))), .val (.int (i32 (qs.length + 4 + ps.length + 1 + s + d + 1 + cs.length))), .val (.int (i32 (qs.length + 4 + ps.length + 1 + s + d + 1 + cs.length + 1 + ts.length))), .val (.int (1 : Int32))] [.int (1 : Int32)]
      refine r_if_eq_f C (pc' := 479) at_476 rfl (by decide) ?_
      exact J
  refine r_iconst C (pc' := 480) (v := 1) at_479 rfl rfl ?_
  refine r_goto C (pc' := 484) at_480 (by decide) (by decide) ?_
  refine r_istore C (pc' := 486) (Ls' := #[.val (.long xx), .second, .val (.long yy), .second, .val (.int y), .val (.int z), .val (.ref sq), .val (.ref sp), .val (.ref sc), .val (.ref su), .val (.ref sr), .val (.long (i64 N)), .second, .val (.int (i32 d)), .val (.int (i32 s)), .val (.int (i32 qs.length)), .val (.int (i32 ps.length)), .val (.int (i32 cs.length)), .val (.int (i32 ts.length)), .val (.int (i32 (qs.length + 4 + ps.length))), .val (.int (i32 (qs.length + 4 + ps.length + 1 + s + d))), .val (.int (i32 (qs.length + 4 + ps.length + 1 + s + d + 1 + cs.length))), .val (.int (i32 (qs.length + 4 + ps.length + 1 + s + d + 1 + cs.length + 1 + ts.length))), .val (.int (1 : Int32))]) at_484 rfl rfl ?_
  refine r_iload C (pc' := 488) at_486 rfl rfl ?_
  refine r_if_eq_f C (pc' := 491) at_488 rfl (by decide) ?_
  refine r_iload C (pc' := 493) at_491 rfl rfl ?_
  refine r_bipush C (pc' := 495) (v := (7)) at_493 rfl rfl ?_
  refine Run.join (h2 := h5) (cells2 := 33) (slots2 := 432) (pc2 := 516) (Ls2 := #[.val (.long xx), .second, .val (.long yy), .second, .val (.int y), .val (.int z), .val (.ref sq), .val (.ref sp), .val (.ref sc), .val (.ref su), .val (.ref sr), .val (.long (i64 N)), .second, .val (.int (i32 d)), .val (.int (i32 s)), .val (.int (i32 qs.length)), .val (.int (i32 ps.length)), .val (.int (i32 cs.length)), .val (.int (i32 ts.length)), .val (.int (i32 (qs.length + 4 + ps.length))), .val (.int (i32 (qs.length + 4 + ps.length + 1 + s + d))), .val (.int (i32 (qs.length + 4 + ps.length + 1 + s + d + 1 + cs.length))), .val (.int (i32 (qs.length + 4 + ps.length + 1 + s + d + 1 + cs.length + 1 + ts.length))), .val (.int (1 : Int32))]) (st2 := []) (fun J => ?_) ?_
  ·
    refine r_icmp_lt C (pt := 516) (pc' := 498) at_495 (by decide) (by decide) rfl ?_ ?_
    · intro q
      exact J
    · intro q
      have q' : 7 ≤ d := Nat.le_of_not_lt (fun z => q ((i32_lt (b := 7) (by omega) (by decide)).mpr z))
      refine r_aload C (pc' := 500) at_498 rfl rfl rfl ?_
      refine r_iload C (pc' := 502) at_500 rfl rfl ?_
      refine r_bipush C (pc' := 504) (v := (7)) at_502 rfl rfl ?_
      refine r_isub C (pc' := 505) at_504 rfl ?_
      rw [show i32 (qs.length + 4 + ps.length + 1 + s + d) - (7 : Int32) = i32 (qs.length + 4 + ps.length + 1 + s + d - 7) from i32_sub (b := 7) (by omega)]
      refine r_lload C (pc' := 507) at_505 rfl rfl ?_
      refine r_ldc2J C (pc' := 510) at_507 rfl (w183 hw) ?_
      refine r_callS C (pc' := 513) (argsL := [.ref sr, .int (i32 (qs.length + 4 + ps.length + 1 + s + d - 7)), .long (i64 N), .long (1000000 : Int64)]) (c_dig l Z a0 hw n0 h5 cc fv ss ol sr rb rk _ SR (qs.length + 4 + ps.length + 1 + s + d - 7) N 1000000 hN (by decide) (by decide) (own_lineD (j := 6) eN ed es (by omega))) at_510 rfl (w213 hw) (w214 hw) (w2 hw) (w215 hw) (by decide) pd36 (st := []) rfl rfl rfl (W := 0) (Nat.le_of_eq rfl) (by decide) (by decide) (by decide) (by decide) (cells' := 33) (slots' := 432) rfl rfl ?_
      rintro _ _ ⟨rfl, rfl⟩
      show Run _ _ _ _ _ h5 _ _ 513 #[.val (.long xx), .second, .val (.long yy), .second, .val (.int y), .val (.int z), .val (.ref sq), .val (.ref sp), .val (.ref sc), .val (.ref su), .val (.ref sr), .val (.long (i64 N)), .second, .val (.int (i32 d)), .val (.int (i32 s)), .val (.int (i32 qs.length)), .val (.int (i32 ps.length)), .val (.int (i32 cs.length)), .val (.int (i32 ts.length)), .val (.int (i32 (qs.length + 4 + ps.length))), .val (.int (i32 (qs.length + 4 + ps.length + 1 + s + d))), .val (.int (i32 (qs.length + 4 + ps.length + 1 + s + d + 1 + cs.length))), .val (.int (i32 (qs.length + 4 + ps.length + 1 + s + d + 1 + cs.length + 1 + ts.length))), .val (.int (1 : Int32))] [.int (1 : Int32)]
      refine r_if_eq_f C (pc' := 516) at_513 rfl (by decide) ?_
      exact J
  refine r_iconst C (pc' := 517) (v := 1) at_516 rfl rfl ?_
  refine r_goto C (pc' := 521) at_517 (by decide) (by decide) ?_
  refine r_istore C (pc' := 523) (Ls' := #[.val (.long xx), .second, .val (.long yy), .second, .val (.int y), .val (.int z), .val (.ref sq), .val (.ref sp), .val (.ref sc), .val (.ref su), .val (.ref sr), .val (.long (i64 N)), .second, .val (.int (i32 d)), .val (.int (i32 s)), .val (.int (i32 qs.length)), .val (.int (i32 ps.length)), .val (.int (i32 cs.length)), .val (.int (i32 ts.length)), .val (.int (i32 (qs.length + 4 + ps.length))), .val (.int (i32 (qs.length + 4 + ps.length + 1 + s + d))), .val (.int (i32 (qs.length + 4 + ps.length + 1 + s + d + 1 + cs.length))), .val (.int (i32 (qs.length + 4 + ps.length + 1 + s + d + 1 + cs.length + 1 + ts.length))), .val (.int (1 : Int32))]) at_521 rfl rfl ?_
  refine r_iload C (pc' := 525) at_523 rfl rfl ?_
  refine r_if_eq_f C (pc' := 528) at_525 rfl (by decide) ?_
  refine r_iload C (pc' := 530) at_528 rfl rfl ?_
  refine r_bipush C (pc' := 532) (v := (8)) at_530 rfl rfl ?_
  refine Run.join (h2 := h5) (cells2 := 33) (slots2 := 432) (pc2 := 553) (Ls2 := #[.val (.long xx), .second, .val (.long yy), .second, .val (.int y), .val (.int z), .val (.ref sq), .val (.ref sp), .val (.ref sc), .val (.ref su), .val (.ref sr), .val (.long (i64 N)), .second, .val (.int (i32 d)), .val (.int (i32 s)), .val (.int (i32 qs.length)), .val (.int (i32 ps.length)), .val (.int (i32 cs.length)), .val (.int (i32 ts.length)), .val (.int (i32 (qs.length + 4 + ps.length))), .val (.int (i32 (qs.length + 4 + ps.length + 1 + s + d))), .val (.int (i32 (qs.length + 4 + ps.length + 1 + s + d + 1 + cs.length))), .val (.int (i32 (qs.length + 4 + ps.length + 1 + s + d + 1 + cs.length + 1 + ts.length))), .val (.int (1 : Int32))]) (st2 := []) (fun J => ?_) ?_
  ·
    refine r_icmp_lt C (pt := 553) (pc' := 535) at_532 (by decide) (by decide) rfl ?_ ?_
    · intro q
      exact J
    · intro q
      have q' : 8 ≤ d := Nat.le_of_not_lt (fun z => q ((i32_lt (b := 8) (by omega) (by decide)).mpr z))
      refine r_aload C (pc' := 537) at_535 rfl rfl rfl ?_
      refine r_iload C (pc' := 539) at_537 rfl rfl ?_
      refine r_bipush C (pc' := 541) (v := (8)) at_539 rfl rfl ?_
      refine r_isub C (pc' := 542) at_541 rfl ?_
      rw [show i32 (qs.length + 4 + ps.length + 1 + s + d) - (8 : Int32) = i32 (qs.length + 4 + ps.length + 1 + s + d - 8) from i32_sub (b := 8) (by omega)]
      refine r_lload C (pc' := 544) at_542 rfl rfl ?_
      refine r_ldc2J C (pc' := 547) at_544 rfl (w184 hw) ?_
      refine r_callS C (pc' := 550) (argsL := [.ref sr, .int (i32 (qs.length + 4 + ps.length + 1 + s + d - 8)), .long (i64 N), .long (10000000 : Int64)]) (c_dig l Z a0 hw n0 h5 cc fv ss ol sr rb rk _ SR (qs.length + 4 + ps.length + 1 + s + d - 8) N 10000000 hN (by decide) (by decide) (own_lineD (j := 7) eN ed es (by omega))) at_547 rfl (w213 hw) (w214 hw) (w2 hw) (w215 hw) (by decide) pd36 (st := []) rfl rfl rfl (W := 0) (Nat.le_of_eq rfl) (by decide) (by decide) (by decide) (by decide) (cells' := 33) (slots' := 432) rfl rfl ?_
      rintro _ _ ⟨rfl, rfl⟩
      show Run _ _ _ _ _ h5 _ _ 550 #[.val (.long xx), .second, .val (.long yy), .second, .val (.int y), .val (.int z), .val (.ref sq), .val (.ref sp), .val (.ref sc), .val (.ref su), .val (.ref sr), .val (.long (i64 N)), .second, .val (.int (i32 d)), .val (.int (i32 s)), .val (.int (i32 qs.length)), .val (.int (i32 ps.length)), .val (.int (i32 cs.length)), .val (.int (i32 ts.length)), .val (.int (i32 (qs.length + 4 + ps.length))), .val (.int (i32 (qs.length + 4 + ps.length + 1 + s + d))), .val (.int (i32 (qs.length + 4 + ps.length + 1 + s + d + 1 + cs.length))), .val (.int (i32 (qs.length + 4 + ps.length + 1 + s + d + 1 + cs.length + 1 + ts.length))), .val (.int (1 : Int32))] [.int (1 : Int32)]
      refine r_if_eq_f C (pc' := 553) at_550 rfl (by decide) ?_
      exact J
  refine r_iconst C (pc' := 554) (v := 1) at_553 rfl rfl ?_
  refine r_goto C (pc' := 558) at_554 (by decide) (by decide) ?_
  refine r_istore C (pc' := 560) (Ls' := #[.val (.long xx), .second, .val (.long yy), .second, .val (.int y), .val (.int z), .val (.ref sq), .val (.ref sp), .val (.ref sc), .val (.ref su), .val (.ref sr), .val (.long (i64 N)), .second, .val (.int (i32 d)), .val (.int (i32 s)), .val (.int (i32 qs.length)), .val (.int (i32 ps.length)), .val (.int (i32 cs.length)), .val (.int (i32 ts.length)), .val (.int (i32 (qs.length + 4 + ps.length))), .val (.int (i32 (qs.length + 4 + ps.length + 1 + s + d))), .val (.int (i32 (qs.length + 4 + ps.length + 1 + s + d + 1 + cs.length))), .val (.int (i32 (qs.length + 4 + ps.length + 1 + s + d + 1 + cs.length + 1 + ts.length))), .val (.int (1 : Int32))]) at_558 rfl rfl ?_
  refine r_iload C (pc' := 562) at_560 rfl rfl ?_
  refine r_if_eq_f C (pc' := 565) at_562 rfl (by decide) ?_
  refine r_iload C (pc' := 567) at_565 rfl rfl ?_
  refine r_bipush C (pc' := 569) (v := (9)) at_567 rfl rfl ?_
  refine Run.join (h2 := h5) (cells2 := 33) (slots2 := 432) (pc2 := 590) (Ls2 := #[.val (.long xx), .second, .val (.long yy), .second, .val (.int y), .val (.int z), .val (.ref sq), .val (.ref sp), .val (.ref sc), .val (.ref su), .val (.ref sr), .val (.long (i64 N)), .second, .val (.int (i32 d)), .val (.int (i32 s)), .val (.int (i32 qs.length)), .val (.int (i32 ps.length)), .val (.int (i32 cs.length)), .val (.int (i32 ts.length)), .val (.int (i32 (qs.length + 4 + ps.length))), .val (.int (i32 (qs.length + 4 + ps.length + 1 + s + d))), .val (.int (i32 (qs.length + 4 + ps.length + 1 + s + d + 1 + cs.length))), .val (.int (i32 (qs.length + 4 + ps.length + 1 + s + d + 1 + cs.length + 1 + ts.length))), .val (.int (1 : Int32))]) (st2 := []) (fun J => ?_) ?_
  ·
    refine r_icmp_lt C (pt := 590) (pc' := 572) at_569 (by decide) (by decide) rfl ?_ ?_
    · intro q
      exact J
    · intro q
      have q' : 9 ≤ d := Nat.le_of_not_lt (fun z => q ((i32_lt (b := 9) (by omega) (by decide)).mpr z))
      refine r_aload C (pc' := 574) at_572 rfl rfl rfl ?_
      refine r_iload C (pc' := 576) at_574 rfl rfl ?_
      refine r_bipush C (pc' := 578) (v := (9)) at_576 rfl rfl ?_
      refine r_isub C (pc' := 579) at_578 rfl ?_
      rw [show i32 (qs.length + 4 + ps.length + 1 + s + d) - (9 : Int32) = i32 (qs.length + 4 + ps.length + 1 + s + d - 9) from i32_sub (b := 9) (by omega)]
      refine r_lload C (pc' := 581) at_579 rfl rfl ?_
      refine r_ldc2J C (pc' := 584) at_581 rfl (w185 hw) ?_
      refine r_callS C (pc' := 587) (argsL := [.ref sr, .int (i32 (qs.length + 4 + ps.length + 1 + s + d - 9)), .long (i64 N), .long (100000000 : Int64)]) (c_dig l Z a0 hw n0 h5 cc fv ss ol sr rb rk _ SR (qs.length + 4 + ps.length + 1 + s + d - 9) N 100000000 hN (by decide) (by decide) (own_lineD (j := 8) eN ed es (by omega))) at_584 rfl (w213 hw) (w214 hw) (w2 hw) (w215 hw) (by decide) pd36 (st := []) rfl rfl rfl (W := 0) (Nat.le_of_eq rfl) (by decide) (by decide) (by decide) (by decide) (cells' := 33) (slots' := 432) rfl rfl ?_
      rintro _ _ ⟨rfl, rfl⟩
      show Run _ _ _ _ _ h5 _ _ 587 #[.val (.long xx), .second, .val (.long yy), .second, .val (.int y), .val (.int z), .val (.ref sq), .val (.ref sp), .val (.ref sc), .val (.ref su), .val (.ref sr), .val (.long (i64 N)), .second, .val (.int (i32 d)), .val (.int (i32 s)), .val (.int (i32 qs.length)), .val (.int (i32 ps.length)), .val (.int (i32 cs.length)), .val (.int (i32 ts.length)), .val (.int (i32 (qs.length + 4 + ps.length))), .val (.int (i32 (qs.length + 4 + ps.length + 1 + s + d))), .val (.int (i32 (qs.length + 4 + ps.length + 1 + s + d + 1 + cs.length))), .val (.int (i32 (qs.length + 4 + ps.length + 1 + s + d + 1 + cs.length + 1 + ts.length))), .val (.int (1 : Int32))] [.int (1 : Int32)]
      refine r_if_eq_f C (pc' := 590) at_587 rfl (by decide) ?_
      exact J
  refine r_iconst C (pc' := 591) (v := 1) at_590 rfl rfl ?_
  refine r_goto C (pc' := 595) at_591 (by decide) (by decide) ?_
  refine r_istore C (pc' := 597) (Ls' := #[.val (.long xx), .second, .val (.long yy), .second, .val (.int y), .val (.int z), .val (.ref sq), .val (.ref sp), .val (.ref sc), .val (.ref su), .val (.ref sr), .val (.long (i64 N)), .second, .val (.int (i32 d)), .val (.int (i32 s)), .val (.int (i32 qs.length)), .val (.int (i32 ps.length)), .val (.int (i32 cs.length)), .val (.int (i32 ts.length)), .val (.int (i32 (qs.length + 4 + ps.length))), .val (.int (i32 (qs.length + 4 + ps.length + 1 + s + d))), .val (.int (i32 (qs.length + 4 + ps.length + 1 + s + d + 1 + cs.length))), .val (.int (i32 (qs.length + 4 + ps.length + 1 + s + d + 1 + cs.length + 1 + ts.length))), .val (.int (1 : Int32))]) at_595 rfl rfl ?_
  refine r_iload C (pc' := 599) at_597 rfl rfl ?_
  refine r_if_eq_f C (pc' := 602) at_599 rfl (by decide) ?_
  refine r_iload C (pc' := 604) at_602 rfl rfl ?_
  refine r_bipush C (pc' := 606) (v := (10)) at_604 rfl rfl ?_
  refine Run.join (h2 := h5) (cells2 := 33) (slots2 := 432) (pc2 := 627) (Ls2 := #[.val (.long xx), .second, .val (.long yy), .second, .val (.int y), .val (.int z), .val (.ref sq), .val (.ref sp), .val (.ref sc), .val (.ref su), .val (.ref sr), .val (.long (i64 N)), .second, .val (.int (i32 d)), .val (.int (i32 s)), .val (.int (i32 qs.length)), .val (.int (i32 ps.length)), .val (.int (i32 cs.length)), .val (.int (i32 ts.length)), .val (.int (i32 (qs.length + 4 + ps.length))), .val (.int (i32 (qs.length + 4 + ps.length + 1 + s + d))), .val (.int (i32 (qs.length + 4 + ps.length + 1 + s + d + 1 + cs.length))), .val (.int (i32 (qs.length + 4 + ps.length + 1 + s + d + 1 + cs.length + 1 + ts.length))), .val (.int (1 : Int32))]) (st2 := []) (fun J => ?_) ?_
  ·
    refine r_icmp_lt C (pt := 627) (pc' := 609) at_606 (by decide) (by decide) rfl ?_ ?_
    · intro q
      exact J
    · intro q
      have q' : 10 ≤ d := Nat.le_of_not_lt (fun z => q ((i32_lt (b := 10) (by omega) (by decide)).mpr z))
      refine r_aload C (pc' := 611) at_609 rfl rfl rfl ?_
      refine r_iload C (pc' := 613) at_611 rfl rfl ?_
      refine r_bipush C (pc' := 615) (v := (10)) at_613 rfl rfl ?_
      refine r_isub C (pc' := 616) at_615 rfl ?_
      rw [show i32 (qs.length + 4 + ps.length + 1 + s + d) - (10 : Int32) = i32 (qs.length + 4 + ps.length + 1 + s + d - 10) from i32_sub (b := 10) (by omega)]
      refine r_lload C (pc' := 618) at_616 rfl rfl ?_
      refine r_ldc2J C (pc' := 621) at_618 rfl (w186 hw) ?_
      refine r_callS C (pc' := 624) (argsL := [.ref sr, .int (i32 (qs.length + 4 + ps.length + 1 + s + d - 10)), .long (i64 N), .long (1000000000 : Int64)]) (c_dig l Z a0 hw n0 h5 cc fv ss ol sr rb rk _ SR (qs.length + 4 + ps.length + 1 + s + d - 10) N 1000000000 hN (by decide) (by decide) (own_lineD (j := 9) eN ed es (by omega))) at_621 rfl (w213 hw) (w214 hw) (w2 hw) (w215 hw) (by decide) pd36 (st := []) rfl rfl rfl (W := 0) (Nat.le_of_eq rfl) (by decide) (by decide) (by decide) (by decide) (cells' := 33) (slots' := 432) rfl rfl ?_
      rintro _ _ ⟨rfl, rfl⟩
      show Run _ _ _ _ _ h5 _ _ 624 #[.val (.long xx), .second, .val (.long yy), .second, .val (.int y), .val (.int z), .val (.ref sq), .val (.ref sp), .val (.ref sc), .val (.ref su), .val (.ref sr), .val (.long (i64 N)), .second, .val (.int (i32 d)), .val (.int (i32 s)), .val (.int (i32 qs.length)), .val (.int (i32 ps.length)), .val (.int (i32 cs.length)), .val (.int (i32 ts.length)), .val (.int (i32 (qs.length + 4 + ps.length))), .val (.int (i32 (qs.length + 4 + ps.length + 1 + s + d))), .val (.int (i32 (qs.length + 4 + ps.length + 1 + s + d + 1 + cs.length))), .val (.int (i32 (qs.length + 4 + ps.length + 1 + s + d + 1 + cs.length + 1 + ts.length))), .val (.int (1 : Int32))] [.int (1 : Int32)]
      refine r_if_eq_f C (pc' := 627) at_624 rfl (by decide) ?_
      exact J
  refine r_iconst C (pc' := 628) (v := 1) at_627 rfl rfl ?_
  refine r_goto C (pc' := 632) at_628 (by decide) (by decide) ?_
  refine r_istore C (pc' := 634) (Ls' := #[.val (.long xx), .second, .val (.long yy), .second, .val (.int y), .val (.int z), .val (.ref sq), .val (.ref sp), .val (.ref sc), .val (.ref su), .val (.ref sr), .val (.long (i64 N)), .second, .val (.int (i32 d)), .val (.int (i32 s)), .val (.int (i32 qs.length)), .val (.int (i32 ps.length)), .val (.int (i32 cs.length)), .val (.int (i32 ts.length)), .val (.int (i32 (qs.length + 4 + ps.length))), .val (.int (i32 (qs.length + 4 + ps.length + 1 + s + d))), .val (.int (i32 (qs.length + 4 + ps.length + 1 + s + d + 1 + cs.length))), .val (.int (i32 (qs.length + 4 + ps.length + 1 + s + d + 1 + cs.length + 1 + ts.length))), .val (.int (1 : Int32))]) at_632 rfl rfl ?_
  refine r_iload C (pc' := 636) at_634 rfl rfl ?_
  refine r_if_ne_t C (pc' := 641) at_636 (by decide) (by decide) (by decide) ?_
  refine r_aload C (pc' := 643) at_641 rfl rfl rfl ?_
  refine r_iload C (pc' := 645) at_643 rfl rfl ?_
  refine r_callV C (pc' := 648) (argsL := [.int (i32 (qs.length + 4 + ps.length + 1 + s + d))]) (c_charAt l Z a0 hw n0 h5 cc fv ss ol sr rb rk _ SR (qs.length + 4 + ps.length + 1 + s + d) 32 (by have := own_line3 (qs := qs) (ps := ps) (ss := cs) (ts := ts) hsd; rwa [← Nat.add_assoc] at this) (by decide)) SR.1 at_645 rfl (w191 hw) (w192 hw) (nfSel (z := ({ cls := "java/lang/String", name := "charAt", desc := "(I)C" } : Jvm.MethodName)) (w194 hw)) (w194 hw) (w193 hw) (w8 hw) (w195 hw) (by decide) pd26 (st := []) rfl rfl rfl (W := 0) (Nat.le_of_eq rfl) (by decide) (by decide) (by decide) (by decide) (cells' := 33) (slots' := 432) rfl rfl ?_
  rintro _ _ ⟨rfl, rfl⟩
  show Run _ _ _ _ _ h5 _ _ 648 #[.val (.long xx), .second, .val (.long yy), .second, .val (.int y), .val (.int z), .val (.ref sq), .val (.ref sp), .val (.ref sc), .val (.ref su), .val (.ref sr), .val (.long (i64 N)), .second, .val (.int (i32 d)), .val (.int (i32 s)), .val (.int (i32 qs.length)), .val (.int (i32 ps.length)), .val (.int (i32 cs.length)), .val (.int (i32 ts.length)), .val (.int (i32 (qs.length + 4 + ps.length))), .val (.int (i32 (qs.length + 4 + ps.length + 1 + s + d))), .val (.int (i32 (qs.length + 4 + ps.length + 1 + s + d + 1 + cs.length))), .val (.int (i32 (qs.length + 4 + ps.length + 1 + s + d + 1 + cs.length + 1 + ts.length))), .val (.int (1 : Int32))] [.int (i32 32)]
  refine r_bipush C (pc' := 650) (v := (32)) at_648 rfl rfl ?_
  refine r_icmp_eq_t C (pc' := 655) at_650 (by decide) (by decide) rfl ?_
  refine r_aload C (pc' := 657) at_655 rfl rfl rfl ?_
  refine r_iload C (pc' := 659) at_657 rfl rfl ?_
  refine r_iconst C (pc' := 660) (v := 1) at_659 rfl rfl ?_
  refine r_iadd C (pc' := 661) at_660 rfl ?_
  refine r_aload C (pc' := 663) at_661 rfl rfl rfl ?_
  rw [show i32 (qs.length + 4 + ps.length + 1 + s + d) + (1 : Int32) = i32 (qs.length + 4 + ps.length + 1 + s + d + 1) from i32_add _ 1]
  refine r_callS C (pc' := 666) (argsL := [.ref sr, .int (i32 (qs.length + 4 + ps.length + 1 + s + d + 1)), .ref sc]) (c_same l Z a0 hw n0 h5 cc fv ss ol sr rb rk _ SR (qs.length + 4 + ps.length + 1 + s + d + 1) sc cb ck cs Sc hc okc (by have := own_lineS (qs := qs) (ps := ps) (ss := cs) (ts := ts) hsd; simpa only [← Nat.add_assoc] using this)) at_663 rfl (w188 hw) (w189 hw) (w2 hw) (w190 hw) (by decide) pd35 (st := []) rfl rfl rfl (W := 0) (Nat.le_of_eq rfl) (by decide) (by decide) (by decide) (by decide) (cells' := 33) (slots' := 432) rfl rfl ?_
  rintro _ _ ⟨rfl, rfl⟩
  show Run _ _ _ _ _ h5 _ _ 666 #[.val (.long xx), .second, .val (.long yy), .second, .val (.int y), .val (.int z), .val (.ref sq), .val (.ref sp), .val (.ref sc), .val (.ref su), .val (.ref sr), .val (.long (i64 N)), .second, .val (.int (i32 d)), .val (.int (i32 s)), .val (.int (i32 qs.length)), .val (.int (i32 ps.length)), .val (.int (i32 cs.length)), .val (.int (i32 ts.length)), .val (.int (i32 (qs.length + 4 + ps.length))), .val (.int (i32 (qs.length + 4 + ps.length + 1 + s + d))), .val (.int (i32 (qs.length + 4 + ps.length + 1 + s + d + 1 + cs.length))), .val (.int (i32 (qs.length + 4 + ps.length + 1 + s + d + 1 + cs.length + 1 + ts.length))), .val (.int (1 : Int32))] [.int (1 : Int32)]
  refine r_if_ne_t C (pc' := 671) at_666 (by decide) (by decide) (by decide) ?_
  refine r_aload C (pc' := 673) at_671 rfl rfl rfl ?_
  refine r_iload C (pc' := 675) at_673 rfl rfl ?_
  refine r_callV C (pc' := 678) (argsL := [.int (i32 (qs.length + 4 + ps.length + 1 + s + d + 1 + cs.length))]) (c_charAt l Z a0 hw n0 h5 cc fv ss ol sr rb rk _ SR (qs.length + 4 + ps.length + 1 + s + d + 1 + cs.length) 32 (by have := own_line4 (qs := qs) (ps := ps) (ss := cs) (ts := ts) hsd; simpa only [← Nat.add_assoc] using this) (by decide)) SR.1 at_675 rfl (w191 hw) (w192 hw) (nfSel (z := ({ cls := "java/lang/String", name := "charAt", desc := "(I)C" } : Jvm.MethodName)) (w194 hw)) (w194 hw) (w193 hw) (w8 hw) (w195 hw) (by decide) pd26 (st := []) rfl rfl rfl (W := 0) (Nat.le_of_eq rfl) (by decide) (by decide) (by decide) (by decide) (cells' := 33) (slots' := 432) rfl rfl ?_
  rintro _ _ ⟨rfl, rfl⟩
  show Run _ _ _ _ _ h5 _ _ 678 #[.val (.long xx), .second, .val (.long yy), .second, .val (.int y), .val (.int z), .val (.ref sq), .val (.ref sp), .val (.ref sc), .val (.ref su), .val (.ref sr), .val (.long (i64 N)), .second, .val (.int (i32 d)), .val (.int (i32 s)), .val (.int (i32 qs.length)), .val (.int (i32 ps.length)), .val (.int (i32 cs.length)), .val (.int (i32 ts.length)), .val (.int (i32 (qs.length + 4 + ps.length))), .val (.int (i32 (qs.length + 4 + ps.length + 1 + s + d))), .val (.int (i32 (qs.length + 4 + ps.length + 1 + s + d + 1 + cs.length))), .val (.int (i32 (qs.length + 4 + ps.length + 1 + s + d + 1 + cs.length + 1 + ts.length))), .val (.int (1 : Int32))] [.int (i32 32)]
  refine r_bipush C (pc' := 680) (v := (32)) at_678 rfl rfl ?_
  refine r_icmp_eq_t C (pc' := 685) at_680 (by decide) (by decide) rfl ?_
  refine r_aload C (pc' := 687) at_685 rfl rfl rfl ?_
  refine r_iload C (pc' := 689) at_687 rfl rfl ?_
  refine r_iconst C (pc' := 690) (v := 1) at_689 rfl rfl ?_
  refine r_iadd C (pc' := 691) at_690 rfl ?_
  refine r_aload C (pc' := 693) at_691 rfl rfl rfl ?_
  rw [show i32 (qs.length + 4 + ps.length + 1 + s + d + 1 + cs.length) + (1 : Int32) = i32 (qs.length + 4 + ps.length + 1 + s + d + 1 + cs.length + 1) from i32_add _ 1]
  refine r_callS C (pc' := 696) (argsL := [.ref sr, .int (i32 (qs.length + 4 + ps.length + 1 + s + d + 1 + cs.length + 1)), .ref su]) (c_same l Z a0 hw n0 h5 cc fv ss ol sr rb rk _ SR (qs.length + 4 + ps.length + 1 + s + d + 1 + cs.length + 1) su ub uk ts Su hu oku (by have := own_lineT (qs := qs) (ps := ps) (ss := cs) (ts := ts) hsd; simpa only [← Nat.add_assoc] using this)) at_693 rfl (w188 hw) (w189 hw) (w2 hw) (w190 hw) (by decide) pd35 (st := []) rfl rfl rfl (W := 0) (Nat.le_of_eq rfl) (by decide) (by decide) (by decide) (by decide) (cells' := 33) (slots' := 432) rfl rfl ?_
  rintro _ _ ⟨rfl, rfl⟩
  show Run _ _ _ _ _ h5 _ _ 696 #[.val (.long xx), .second, .val (.long yy), .second, .val (.int y), .val (.int z), .val (.ref sq), .val (.ref sp), .val (.ref sc), .val (.ref su), .val (.ref sr), .val (.long (i64 N)), .second, .val (.int (i32 d)), .val (.int (i32 s)), .val (.int (i32 qs.length)), .val (.int (i32 ps.length)), .val (.int (i32 cs.length)), .val (.int (i32 ts.length)), .val (.int (i32 (qs.length + 4 + ps.length))), .val (.int (i32 (qs.length + 4 + ps.length + 1 + s + d))), .val (.int (i32 (qs.length + 4 + ps.length + 1 + s + d + 1 + cs.length))), .val (.int (i32 (qs.length + 4 + ps.length + 1 + s + d + 1 + cs.length + 1 + ts.length))), .val (.int (1 : Int32))] [.int (1 : Int32)]
  exact r_zreturn C at_696 rfl (by decide) (by decide) (Nat.le_refl _) (fun _ _ => rfl)

theorem own_tab {Z : State} {args : Array Value} {t F : Term} {a : Addr} (hf : Fit Z) (et : ∀ idx, t.eval args Z none idx Z = some (.ref a)) (ex : (Jvm.Cond.exactly t "[B").before args Z = true) (el : (Jvm.Cond.eq (.length t) (.int (100 : Int32))).before args Z = true) (al : (Jvm.Cond.all t (.eq (.elem t (.index 0)) F)).before args Z = true) (wa : (Jvm.Cond.arrayClass .byte).before args Z = true) (f : Nat → Nat) (hF : ∀ j : Nat, j < 100 → F.eval args Z none [j] Z = some (.int (by8 (f j)))) : ∃ k : ClassId, AV Z Z.heap a k .byte ((List.range 100).map fun j => Value.int (by8 (f j))) (.int 0) := by
  have hlen := Cond.eq_int el rfl
  obtain ⟨sd, SA, hev, harrAt, -⟩ := Term.length_spec hlen
  have h31 := SBG.length_lt hev harrAt hlen
  cases (et []).symm.trans hev
  have hsz : SA.slots.size = 100 := by
    have e : (Term.length t).eval args Z none [] Z = some (.int (Int32.ofNat SA.slots.size)) := by simp [Term.eval, hev, harrAt, h31]
    have h2 : Int32.ofNat SA.slots.size = (100 : Int32) := by simpa using Option.some.inj (e.symm.trans hlen)
    have := congrArg Int32.toInt h2
    rw [Int32.toInt_ofNat_small h31, show (100 : Int32).toInt = 100 from rfl] at this; omega
  obtain ⟨a3, c3, cell3, k3, e1, e2, e3, e4, e5, e6, -⟩ := Cond.exactly_spec ex
  cases hev.symm.trans e1
  obtain ⟨c4, k4, comp, f1, f2, f3⟩ := Cond.arrayClass_spec wa
  have hcell : Z.heap[a]? = some SA ∧ SA.vm ≠ .unknown := by
    simp only [State.arrayAt?, Option.bind_eq_bind] at harrAt
    cases q : Z.heap[a]? with
    | none => simp [q] at harrAt
    | some x => simp only [q, Option.bind_some] at harrAt; grind
  cases hcell.1.symm.trans e3
  cases (show Z.vm.findClass "[B" = some c4 from f1).symm.trans e2
  have A : Arr Z Z.heap a SA .byte := ⟨hcell.1, ⟨(fun q r => by rw [r] at e5; cases e5), k4, by rw [e6]; exact f2, comp, f3⟩, hcell.2⟩
  have H : ∀ j, j < 100 → SA.slots[j]? = some (.int (by8 (f j))) := fun j hj => by
    have u := Cond.all_elim (et []) (A.fin (Vm.Alike.refl _)) (Cond.before_iff.mp al) j (by omega)
    have v := eqv_i (hF j hj) u
    have ec : (i32 j).toNatClampNeg = j := i32_clamp (by omega)
    have nn : ¬ i32 j < 0 := i32_nn (by omega)
    have z := elem_f (t := t) (et [(i32 j).toNatClampNeg]) (idx_at nn) (A.fin (Vm.Alike.refl _)) nn
    rw [ec] at z
    exact z.symm.trans v
  have H' : Has SA ((List.range 100).map fun j => Value.int (by8 (f j))) (.int 0) := fun j hj => by
    rw [hsz] at hj
    rw [H j hj]; simp [hj]
  refine ⟨SA.cls, ⟨SA, A, rfl, by rw [hsz, List.length_map, List.length_range, i32_clamp (by decide)], i32_nn (by rw [List.length_map, List.length_range]; decide), H', fun j hj => ?_⟩, by simp⟩
  have e1 : (Nat.toInt32 j).toNatClampNeg = j := by simp only [Int32.toNatClampNeg, len_toInt (Nat.lt_trans hj h31)]; rfl
  exact elem_fits (j := Nat.toInt32 j) hf A (idx_in hj h31) (by rw [e1]; exact H' j hj)
theorem own_onesF : ∀ j : Fin 100, (48 : Int32) + i32 j % 10 = by8 (48 + j % 10) := by decide +kernel
theorem own_tensF : ∀ j : Fin 100, (48 : Int32) + i32 j / 10 = by8 (48 + j / 10) := by decide +kernel
theorem own_dt {s : State} {args : Array Value} (hf : Fit s) (hw : ∀ d ∈ tables_1, d.before args s = true) (hsets : ∀ w ∈ jdkStatics_1, w.before args s = true) : ∃ (t1 t2 : Nat) (q1 q2 : ClassId), own_DT s t1 t2 q1 q2 := by
  have g := fun i (w : Jvm.Cond) (e : jdkStatics_1[i]? = some w) => hsets w (List.mem_of_getElem? e)
  obtain ⟨t1, e1⟩ := exa_v (Cond.before_iff.mp (g 12 _ rfl))
  obtain ⟨t2, e2⟩ := exa_v (Cond.before_iff.mp (g 17 _ rfl))
  obtain ⟨q1, A1⟩ := own_tab hf (fun _ => e1) (g 12 _ rfl) (g 13 _ rfl) (g 14 _ rfl) ((w24 hw)) (fun j => 48 + j % 10) (fun j hj => by
    have := idx_at (args := args) (s := s) (first := s) (o := none) (j := i32 j) (i32_nn (by omega))
    rw [i32_clamp (by omega)] at this
    rw [← own_onesF ⟨j, hj⟩]
    exact Term.add_int rfl (rem_f this (y := 10) rfl (by decide)))
  obtain ⟨q2, A2⟩ := own_tab hf (fun _ => e2) (g 17 _ rfl) (g 18 _ rfl) (g 19 _ rfl) ((w24 hw)) (fun j => 48 + j / 10) (fun j hj => by
    have := idx_at (args := args) (s := s) (first := s) (o := none) (j := i32 j) (i32_nn (by omega))
    rw [i32_clamp (by omega)] at this
    rw [← own_tensF ⟨j, hj⟩]
    exact Term.add_int rfl (div_f this (y := 10) rfl (by decide)))
  exact ⟨t1, t2, q1, q2, Sta.start e1 (Or.inl (g 11 _ rfl)), Sta.start e2 (Or.inl (g 16 _ rfl)), A1, A2⟩
set_option maxRecDepth 65536 in
set_option maxHeartbeats 40000000 in
theorem comes_1 {Post : Tables → Env → Array Value → State → Outcome → State → Prop} (hpost : ∀ tb e args s v u, (limb_1_1.after args s (.returned v) u = true ∧ limb_1_2.after args s (.returned v) u = true ∧ True) → ReturnedEndW s (.returned v) u (Jvm.fieldLocs frame_1_writes args s ++ Jvm.arrayLocs frame_1_arrays args s ++ Jvm.staticLocs frame_1_statics s) 48 3392 → Post tb e args s (.returned v) u) :
    ArmFor flags0 classFile x code maxLocals ret World_1 tables_1 room_1 Calls_1 rest_1 Pre_1 Post := by
  intro l hfl _ _ p e ha hc hk s m args below hf hA hF happ hP
  obtain ⟨hcalls, hrest, hpre⟩ := hP
  obtain ⟨-, -, -, hnamed, -, -, -, hat⟩ := (Spec.applies_iff hf).mp happ
  obtain ⟨hg, hn⟩ := and_e (Cond.before_iff.mp (show (Jvm.Cond.and given_1 narrow_1).before args s = true from hpre))
  obtain ⟨h1, g0⟩ := and_e hg
  obtain ⟨k0, g1⟩ := and_e g0
  obtain ⟨k1, g2⟩ := and_e g1
  obtain ⟨k2, g3⟩ := and_e g2
  obtain ⟨w0, w1, w2, w3, rfl⟩ : ∃ w0 w1 w2 w3 : Value, args = #[w0, w1, w2, w3] := by
    have hs : args.size = 4 := by simpa [Cond.value, given_1] using h1
    obtain ⟨L⟩ := args
    match L, hs with
    | [w0, w1, w2, w3], _ => exact ⟨w0, w1, w2, w3, rfl⟩
  have hw := fun d (hd : d ∈ tables_1) => atoms_spec (ws := Jvm.Cond.code x code maxLocals ret :: tables_1) hat d (List.mem_cons_of_mem _ hd)
  obtain ⟨hsets, hown0⟩ := atoms_of _ (rest_1_c_eq ▸ (show rest_1_c.before _ s = true from hrest))
  have hfit : Fit s := fun {y c} hc i hi => by
    obtain ⟨ha, rfl⟩ := Array.getElem?_eq_some_iff.mp hc
    have q := List.all_eq_true.mp ((Array.all_eq_true_iff_forall_mem.mp hF) _ (Array.getElem_mem ha)) i (List.mem_range.mpr hi)
    simpa [Array.getElem?_eq_getElem hi] using q
  obtain ⟨i0, e0⟩ := isL_v k0
  obtain rfl : w0 = (.long i0) := Option.some.inj e0
  obtain ⟨i1, e1⟩ := isL_v k1
  obtain rfl : w1 = (.long i1) := Option.some.inj e1
  obtain ⟨i2, e2⟩ := is_v k2
  obtain rfl : w2 = (.int i2) := Option.some.inj e2
  obtain ⟨i3, e3⟩ := is_v g3
  obtain rfl : w3 = (.int i3) := Option.some.inj e3
  obtain ⟨cc, fv, ss⟩ := own_ss hsets
  obtain ⟨t1, t2, q1, q2, dt⟩ := own_dt hfit hw hsets
  obtain ⟨n, o, h1, h2, h3, _, L, rfl, ⟨rfl, N⟩, hq⟩ := rm0 l s _ hw s.heap.size s.heap i0 i1 i2 i3 cc fv ss (Od.start s) t1 t2 q1 q2 dt (Nat.le_refl _) (hcalls.1 _ (List.mem_of_getElem? (i := 2) rfl)) (hcalls.1 _ (List.mem_of_getElem? (i := 1) rfl)) (hcalls.1 _ (List.mem_of_getElem? (i := 0) rfl)) (hsets _ (List.mem_of_getElem? (i := 2) rfl)) p e ha hc hk s m _ below hf ((Spec.applies_iff_loose hf).mp happ).1 ⟨rfl, State.Warmed39.refl s, rfl, IB.start⟩ trivial
  refine ⟨n, _, h1, h2, h3, hpost _ _ _ _ _ _ ⟨Cond.after_iff.mpr rfl, Cond.after_iff.mpr (eq_i res_at (Term.int_eval (1)) rfl), trivial⟩ ⟨hq.1, hq.2.1, hq.2.2.1, (hq.2.2.2.sift fun y hy => Or.inr (N y hy)).mono (by decide) (by decide)⟩⟩
theorem main_1_1 : Claimed_1_1 := comes_1 fun _ _ _ _ _ _ h hF => ⟨h.1, hF⟩
theorem main_1_2 : Claimed_1_2 := comes_1 fun _ _ _ _ _ _ h hF => ⟨h.2.1, hF⟩
end Jvm.Pilot.@@N@@
namespace Jvm.Pilot.@@N@@
open Jvm Jvm.ClassFile Sem Op Lib Jvm.Free Jvm.Stand Jvm.Pilot.@@N@@.Jvm.D
/-! MADE BY PROGRAM (witnessworld.py) out of the Statement's table words and the real class files: 28 classes; the members and pool entries that the words name. The judged class is class 1, her method 1. -/
namespace start1
open Jvm.ClassFile
def u (s : String) : CpInfo := .utf8 (stringToUtf16 s)
/-- a pool by its gaps: so many unusable entries, then the entry; so many at the end -/
def gap : Nat → List CpInfo → List CpInfo
  | 0, r => r
  | n + 1, r => .unusable :: gap n r
def poolList (es : List (Nat × CpInfo)) (last : Nat) : List CpInfo := es.foldr (fun e r => gap e.1 (e.2 :: r)) (gap last [])
def pool (es : List (Nat × CpInfo)) (last : Nat) : Array CpInfo := ⟨poolList es last⟩
def fileOf (pool : Array CpInfo) (this : Nat) (attrs : Array Attribute := #[]) (ms : Array MethodInfo := #[]) (fl : Nat := 33) (sup : Nat := 0) (ifs : Array Nat := #[]) (fds : Array FieldInfo := #[]) : ClassFile where
  minorVersion := 0
  majorVersion := 65
  constantPool := pool
  accessFlags := fl
  thisClass := this
  superClass := sup
  interfaces := ifs
  fields := fds
  methods := ms
  attributes := attrs
def plain (name : String) (sup : Option ClassId) : Class where
  name := name
  kind := .ordinary
  loader := none
  accessFlags := 33
  super := sup
  interfaces := #[]
  cf := none
  fields := #[]
  methods := #[]
  instanceTypes := #[]
  staticTypes := #[]
  resolved := #[]
  callSites := []
  init := .initialized
  statics := none
  mirror := none

def pool0 : Array CpInfo := pool [(5, u "<init>"), (0, u "()V"), (1, .class_ 10), (1, u "java/lang/Object"), (85, u "clone"), (0, u "()Ljava/lang/Object;")] 26

def k0c0 : Code := { maxStack := 0, maxLocals := 1, code := object_method_1_code, exceptionTable := #[], attributes := #[] }
def k0m0 : Method := { name := "<init>", desc := "()V", sig := { parameters := [], returnType := none }, accessFlags := 1, code := some k0c0 }
def k0m1 : Method := { name := "clone", desc := "()Ljava/lang/Object;", sig := { parameters := [], returnType := some (.object "java/lang/Object") }, accessFlags := 260, code := none }
/-- java/lang/Object -/
def k0 : Class := { plain "java/lang/Object" none with
  accessFlags := 33
  interfaces := #[]
  cf := some (fileOf pool0 8 #[] #[{ accessFlags := 1, nameIndex := 5, descriptorIndex := 6, attributes := #[] }, { accessFlags := 260, nameIndex := 96, descriptorIndex := 97, attributes := #[] }] 33 0 #[] #[])
  fields := #[]
  methods := #[k0m0, k0m1]
  instanceTypes := #[]
  staticTypes := #[]
  resolved := Array.replicate 124 none
  statics := none }

def pool1 : Array CpInfo := pool [(2, .class_ 4), (1, u "java/lang/Object"), (0, u "<init>"), (0, u "()V"), (0, .methodref 8 9), (0, .class_ 10), (0, .nameAndType 11 12), (0, u "com/example/ranker/ranker/RunFileLinePinLaw"), (0, u "mk"), (0, u "(JI)Ljava/lang/String;"), (0, .methodref 14 15), (0, .class_ 16), (0, .nameAndType 17 18), (0, u "com/example/ranker/ranker/RunFile"), (0, u "line"), (0, u "(Ljava/lang/String;Ljava/lang/String;ILjava/lang/String;Ljava/lang/String;)Ljava/lang/String;"), (0, .methodref 20 21), (0, .class_ 22), (0, .nameAndType 23 24), (0, u "java/lang/Math"), (0, u "abs"), (0, u "(J)J"), (0, .methodref 8 26), (0, .nameAndType 27 28), (0, u "digits"), (0, u "(J)I"), (0, .methodref 30 31), (0, .class_ 32), (0, .nameAndType 33 34), (0, u "java/lang/String"), (0, u "length"), (0, u "()I"), (0, .methodref 8 36), (0, .nameAndType 37 38), (0, u "same"), (0, u "(Ljava/lang/String;ILjava/lang/String;)Z"), (0, .methodref 30 40), (0, .nameAndType 41 42), (0, u "charAt"), (0, u "(I)C"), (0, .methodref 8 44), (0, .nameAndType 45 46), (0, u "dig"), (0, u "(Ljava/lang/String;IJJ)Z"), (0, .long 10), (1, .long 100), (1, .long 1000), (1, .long 10000), (1, .long 100000), (1, .long 1000000), (1, .long 10000000), (1, .long 100000000), (1, .long 1000000000), (1, .long 255), (1, .methodref 30 68), (0, .nameAndType 5 69), (0, u "([C)V"), (2, u "law"), (0, u "(JJII)Z")] 3

def k1m0 : Method := { name := "<init>", desc := "()V", sig := { parameters := [], returnType := none }, accessFlags := 1, code := none }
def k1c1 : Code := { maxStack := 6, maxLocals := 24, code := code, exceptionTable := #[], attributes := #[] }
def k1m1 : Method := { name := "law", desc := "(JJII)Z", sig := { parameters := [.long, .long, .int, .int], returnType := some .boolean }, accessFlags := 9, code := some k1c1 }
def k1c2 : Code := { maxStack := 4, maxLocals := 6, code := method_3_code, exceptionTable := #[], attributes := #[] }
def k1m2 : Method := { name := "mk", desc := "(JI)Ljava/lang/String;", sig := { parameters := [.long, .int], returnType := some (.object "java/lang/String") }, accessFlags := 10, code := some k1c2 }
def k1c3 : Code := { maxStack := 4, maxLocals := 3, code := method_4_code, exceptionTable := #[], attributes := #[] }
def k1m3 : Method := { name := "digits", desc := "(J)I", sig := { parameters := [.long], returnType := some .int }, accessFlags := 10, code := some k1c3 }
def k1c4 : Code := { maxStack := 6, maxLocals := 6, code := method_5_code, exceptionTable := #[], attributes := #[] }
def k1m4 : Method := { name := "dig", desc := "(Ljava/lang/String;IJJ)Z", sig := { parameters := [(.object "java/lang/String"), .int, .long, .long], returnType := some .boolean }, accessFlags := 10, code := some k1c4 }
def k1c5 : Code := { maxStack := 3, maxLocals := 3, code := method_6_code, exceptionTable := #[], attributes := #[] }
def k1m5 : Method := { name := "same", desc := "(Ljava/lang/String;ILjava/lang/String;)Z", sig := { parameters := [(.object "java/lang/String"), .int, (.object "java/lang/String")], returnType := some .boolean }, accessFlags := 10, code := some k1c5 }
/-- com/example/ranker/ranker/RunFileLinePinLaw -/
def k1 : Class := { plain "com/example/ranker/ranker/RunFileLinePinLaw" (some 0) with
  accessFlags := 49
  interfaces := #[]
  cf := some (fileOf pool1 8 #[] #[{ accessFlags := 1, nameIndex := 5, descriptorIndex := 6, attributes := #[] }, { accessFlags := 9, nameIndex := 72, descriptorIndex := 73, attributes := #[] }, { accessFlags := 10, nameIndex := 11, descriptorIndex := 12, attributes := #[] }, { accessFlags := 10, nameIndex := 27, descriptorIndex := 28, attributes := #[] }, { accessFlags := 10, nameIndex := 45, descriptorIndex := 46, attributes := #[] }, { accessFlags := 10, nameIndex := 37, descriptorIndex := 38, attributes := #[] }] 49 2 #[] #[])
  fields := #[]
  methods := #[k1m0, k1m1, k1m2, k1m3, k1m4, k1m5]
  instanceTypes := #[]
  staticTypes := #[]
  resolved := Array.replicate 77 none
  statics := none }

def pool2 : Array CpInfo := pool [(1, .class_ 2), (0, u "java/io/Serializable"), (0, .class_ 4), (0, u "java/lang/Object")] 2

/-- java/io/Serializable -/
def k2 : Class := { plain "java/io/Serializable" (some 0) with
  accessFlags := 1537
  interfaces := #[]
  cf := some (fileOf pool2 1 #[] #[] 1537 3 #[] #[])
  fields := #[]
  methods := #[]
  instanceTypes := #[]
  staticTypes := #[]
  resolved := Array.replicate 7 none
  statics := none }

def pool3 : Array CpInfo := pool [(1, .class_ 2), (0, u "java/lang/Comparable"), (0, .class_ 4), (0, u "java/lang/Object")] 7

/-- java/lang/Comparable -/
def k3 : Class := { plain "java/lang/Comparable" (some 0) with
  accessFlags := 1537
  interfaces := #[]
  cf := some (fileOf pool3 1 #[] #[] 1537 3 #[] #[])
  fields := #[]
  methods := #[]
  instanceTypes := #[]
  staticTypes := #[]
  resolved := Array.replicate 12 none
  statics := none }

def pool4 : Array CpInfo := pool [(2, .class_ 4), (1, u "java/lang/CharSequence"), (42, .class_ 48), (0, u "java/lang/CharSequence$1CodePointIterator"), (10, .class_ 60), (0, u "java/lang/CharSequence$1CharIterator"), (5, .class_ 67), (0, u "java/lang/Object")] 63

/-- java/lang/CharSequence -/
def k4 : Class := { plain "java/lang/CharSequence" (some 0) with
  accessFlags := 1537
  interfaces := #[]
  cf := some (fileOf pool4 2 #[.nestMembers #[47, 59]] #[] 1537 66 #[] #[])
  fields := #[]
  methods := #[]
  instanceTypes := #[]
  staticTypes := #[]
  resolved := Array.replicate 131 none
  statics := none }

def pool5 : Array CpInfo := pool [(1, .class_ 2), (0, u "java/lang/constant/Constable"), (0, .class_ 4), (0, u "java/lang/Object")] 6

/-- java/lang/constant/Constable -/
def k5 : Class := { plain "java/lang/constant/Constable" (some 0) with
  accessFlags := 1537
  interfaces := #[]
  cf := some (fileOf pool5 1 #[] #[] 1537 3 #[] #[])
  fields := #[]
  methods := #[]
  instanceTypes := #[]
  staticTypes := #[]
  resolved := Array.replicate 11 none
  statics := none }

def pool6 : Array CpInfo := pool [(1, .class_ 2), (0, u "java/lang/constant/ConstantDesc"), (0, .class_ 4), (0, u "java/lang/Object")] 32

/-- java/lang/constant/ConstantDesc -/
def k6 : Class := { plain "java/lang/constant/ConstantDesc" (some 0) with
  accessFlags := 1537
  interfaces := #[]
  cf := some (fileOf pool6 1 #[] #[] 1537 3 #[] #[])
  fields := #[]
  methods := #[]
  instanceTypes := #[]
  staticTypes := #[]
  resolved := Array.replicate 37 none
  statics := none }

def pool7 : Array CpInfo := pool [(1, .methodref 2 3), (0, .class_ 4), (0, .nameAndType 5 6), (0, u "java/lang/Object"), (0, u "<init>"), (0, u "()V"), (0, .string 8), (0, u ""), (0, .fieldref 10 11), (0, .class_ 12), (0, .nameAndType 13 14), (0, u "java/lang/String"), (0, u "value"), (0, u "[B"), (0, .fieldref 10 16), (0, .nameAndType 17 18), (0, u "coder"), (0, u "B"), (2, u "hash"), (0, u "I"), (2, u "hashIsZero"), (0, u "Z"), (0, .methodref 10 28), (0, .nameAndType 5 29), (0, u "([CIILjava/lang/Void;)V"), (8, .fieldref 10 39), (0, .nameAndType 40 26), (0, u "COMPACT_STRINGS"), (1, .class_ 44), (1, u "java/lang/StringUTF16"), (0, u "compress"), (1, .methodref 42 48), (0, .nameAndType 49 50), (0, u "coderFromArrayLen"), (0, u "([BI)B"), (3, .methodref 55 56), (0, .class_ 57), (0, .nameAndType 58 59), (0, u "java/util/Arrays"), (0, u "copyOfRange"), (0, u "([BII)[B"), (47, .class_ 109), (1, u "java/lang/StringLatin1"), (32, u "()Z"), (34, .methodref 42 178), (0, .nameAndType 45 179), (0, u "([CII)[B"), (13, .class_ 195), (1, u "java/lang/System"), (16, .methodref 193 213), (0, .nameAndType 214 215), (0, u "arraycopy"), (0, u "(Ljava/lang/Object;ILjava/lang/Object;II)V"), (118, u "()I"), (0, .methodref 10 336), (0, .nameAndType 17 337), (0, u "()B"), (2, u "()[B"), (22, u "([BI)C"), (27, u "(II)V"), (35, u "(I)C"), (61, .methodref 10 490), (0, .nameAndType 5 491), (0, u "(Ljava/lang/AbstractStringBuilder;Ljava/lang/Void;)V"), (0, .methodref 10 493), (0, .nameAndType 494 142), (0, u "isLatin1"), (0, .methodref 107 496), (0, .nameAndType 497 363), (0, u "charAt"), (3, u "checkIndex"), (4, .nameAndType 507 334), (0, u "length"), (24, u "getBytes"), (16, .methodref 550 506), (0, .class_ 551), (0, u "java/lang/AbstractStringBuilder"), (0, .methodref 550 553), (0, .nameAndType 554 340), (0, u "getValue"), (20, .class_ 576), (0, u "java/lang/CharSequence"), (22, u "CASE_INSENSITIVE_ORDER"), (0, u "Ljava/util/Comparator;"), (220, u "([BIB)V"), (188, u "([C)V"), (36, .methodref 550 493), (5, .fieldref 1054 1055), (0, .class_ 1056), (0, .nameAndType 1057 1058), (0, u "jdk/internal/util/Preconditions"), (0, u "SIOOBE_FORMATTER"), (0, u "Ljava/util/function/BiFunction;"), (0, .methodref 1054 1060), (0, .nameAndType 501 1061), (0, u "(IILjava/util/function/BiFunction;)I"), (39, u "serialPersistentFields"), (0, u "[Ljava/io/ObjectStreamField;"), (0, .class_ 1104), (0, u "java/lang/String$CaseInsensitiveComparator"), (1, .class_ 1107), (0, u "java/io/Serializable"), (0, .class_ 1109), (0, u "java/lang/Comparable"), (0, .class_ 1111), (0, u "java/lang/constant/Constable"), (0, .class_ 1113), (0, u "java/lang/constant/ConstantDesc"), (2, u "serialVersionUID"), (0, u "J"), (3, u "REPL"), (0, u "C"), (2, u "LATIN1"), (1, u "UTF16"), (105, u "(Ljava/lang/StringBuilder;)V")] 217

def k7m0 : Method := { name := "<init>", desc := "()V", sig := { parameters := [], returnType := none }, accessFlags := 1, code := none }
def k7c1 : Code := { maxStack := 5, maxLocals := 2, code := jdk_42_method_3_code, exceptionTable := #[], attributes := #[] }
def k7m1 : Method := { name := "<init>", desc := "([C)V", sig := { parameters := [(.array .char)], returnType := none }, accessFlags := 1, code := some k7c1 }
def k7c2 : Code := { maxStack := 3, maxLocals := 2, code := jdk_42_method_53_code, exceptionTable := #[], attributes := #[] }
def k7m2 : Method := { name := "<init>", desc := "(Ljava/lang/StringBuilder;)V", sig := { parameters := [(.object "java/lang/StringBuilder")], returnType := none }, accessFlags := 1, code := some k7c2 }
def k7c3 : Code := { maxStack := 2, maxLocals := 1, code := jdk_42_method_54_code, exceptionTable := #[], attributes := #[] }
def k7m3 : Method := { name := "length", desc := "()I", sig := { parameters := [], returnType := some .int }, accessFlags := 1, code := some k7c3 }
def k7c4 : Code := { maxStack := 2, maxLocals := 2, code := jdk_42_method_56_code, exceptionTable := #[], attributes := #[] }
def k7m4 : Method := { name := "charAt", desc := "(I)C", sig := { parameters := [.int], returnType := some .char }, accessFlags := 1, code := some k7c4 }
def k7c5 : Code := { maxStack := 5, maxLocals := 4, code := jdk_42_method_147_code, exceptionTable := #[], attributes := #[] }
def k7m5 : Method := { name := "getBytes", desc := "([BIB)V", sig := { parameters := [(.array .byte), .int, .byte], returnType := none }, accessFlags := 0, code := some k7c5 }
def k7c6 : Code := { maxStack := 4, maxLocals := 6, code := jdk_42_method_149_code, exceptionTable := #[], attributes := #[] }
def k7m6 : Method := { name := "<init>", desc := "([CIILjava/lang/Void;)V", sig := { parameters := [(.array .char), .int, .int, (.object "java/lang/Void")], returnType := none }, accessFlags := 2, code := some k7c6 }
def k7c7 : Code := { maxStack := 5, maxLocals := 5, code := jdk_42_method_150_code, exceptionTable := #[], attributes := #[] }
def k7m7 : Method := { name := "<init>", desc := "(Ljava/lang/AbstractStringBuilder;Ljava/lang/Void;)V", sig := { parameters := [(.object "java/lang/AbstractStringBuilder"), (.object "java/lang/Void")], returnType := none }, accessFlags := 0, code := some k7c7 }
def k7c8 : Code := { maxStack := 1, maxLocals := 1, code := jdk_42_method_152_code, exceptionTable := #[], attributes := #[] }
def k7m8 : Method := { name := "coder", desc := "()B", sig := { parameters := [], returnType := some .byte }, accessFlags := 0, code := some k7c8 }
def k7c9 : Code := { maxStack := 1, maxLocals := 1, code := jdk_42_method_154_code, exceptionTable := #[], attributes := #[] }
def k7m9 : Method := { name := "isLatin1", desc := "()Z", sig := { parameters := [], returnType := some .boolean }, accessFlags := 0, code := some k7c9 }
def k7c10 : Code := { maxStack := 3, maxLocals := 2, code := jdk_42_method_155_code, exceptionTable := #[], attributes := #[] }
def k7m10 : Method := { name := "checkIndex", desc := "(II)V", sig := { parameters := [.int, .int], returnType := none }, accessFlags := 8, code := some k7c10 }
/-- java/lang/String -/
def k7 : Class := { plain "java/lang/String" (some 0) with
  accessFlags := 49
  interfaces := #[2, 3, 4, 5, 6]
  cf := some (fileOf pool7 10 #[.nestMembers #[1103]] #[{ accessFlags := 1, nameIndex := 5, descriptorIndex := 6, attributes := #[] }, { accessFlags := 1, nameIndex := 5, descriptorIndex := 1010, attributes := #[] }, { accessFlags := 1, nameIndex := 5, descriptorIndex := 1233, attributes := #[] }, { accessFlags := 1, nameIndex := 507, descriptorIndex := 334, attributes := #[] }, { accessFlags := 1, nameIndex := 497, descriptorIndex := 427, attributes := #[] }, { accessFlags := 0, nameIndex := 532, descriptorIndex := 821, attributes := #[] }, { accessFlags := 2, nameIndex := 5, descriptorIndex := 29, attributes := #[] }, { accessFlags := 0, nameIndex := 5, descriptorIndex := 491, attributes := #[] }, { accessFlags := 0, nameIndex := 17, descriptorIndex := 337, attributes := #[] }, { accessFlags := 0, nameIndex := 494, descriptorIndex := 142, attributes := #[] }, { accessFlags := 8, nameIndex := 501, descriptorIndex := 391, attributes := #[] }] 49 2 #[1106, 1108, 575, 1110, 1112] #[{ accessFlags := 18, nameIndex := 13, descriptorIndex := 14, attributes := #[] }, { accessFlags := 18, nameIndex := 17, descriptorIndex := 18, attributes := #[] }, { accessFlags := 2, nameIndex := 21, descriptorIndex := 22, attributes := #[] }, { accessFlags := 2, nameIndex := 25, descriptorIndex := 26, attributes := #[] }, { accessFlags := 26, nameIndex := 1116, descriptorIndex := 1117, attributes := #[] }, { accessFlags := 24, nameIndex := 40, descriptorIndex := 26, attributes := #[] }, { accessFlags := 26, nameIndex := 1101, descriptorIndex := 1102, attributes := #[] }, { accessFlags := 26, nameIndex := 1121, descriptorIndex := 1122, attributes := #[] }, { accessFlags := 25, nameIndex := 599, descriptorIndex := 600, attributes := #[] }, { accessFlags := 24, nameIndex := 1125, descriptorIndex := 18, attributes := #[] }, { accessFlags := 24, nameIndex := 1127, descriptorIndex := 18, attributes := #[] }])
  fields := #[{ name := "value", type := (.array .byte), accessFlags := 18, slot := 0, constantValue := 0 }, { name := "coder", type := .byte, accessFlags := 18, slot := 1, constantValue := 0 }, { name := "hash", type := .int, accessFlags := 2, slot := 2, constantValue := 0 }, { name := "hashIsZero", type := .boolean, accessFlags := 2, slot := 3, constantValue := 0 }, { name := "serialVersionUID", type := .long, accessFlags := 26, slot := 0, constantValue := 0 }, { name := "COMPACT_STRINGS", type := .boolean, accessFlags := 24, slot := 1, constantValue := 0 }, { name := "serialPersistentFields", type := (.array (.object "java/io/ObjectStreamField")), accessFlags := 26, slot := 2, constantValue := 0 }, { name := "REPL", type := .char, accessFlags := 26, slot := 3, constantValue := 0 }, { name := "CASE_INSENSITIVE_ORDER", type := (.object "java/util/Comparator"), accessFlags := 25, slot := 4, constantValue := 0 }, { name := "LATIN1", type := .byte, accessFlags := 24, slot := 5, constantValue := 0 }, { name := "UTF16", type := .byte, accessFlags := 24, slot := 6, constantValue := 0 }]
  methods := #[k7m0, k7m1, k7m2, k7m3, k7m4, k7m5, k7m6, k7m7, k7m8, k7m9, k7m10]
  instanceTypes := #[(.array .byte), .byte, .int, .boolean]
  staticTypes := #[.long, .boolean, (.array (.object "java/io/ObjectStreamField")), .char, (.object "java/util/Comparator"), .byte, .byte]
  resolved := Array.replicate 1451 none
  statics := some 0 }

def pool8 : Array CpInfo := pool [(6, .class_ 8), (1, u "java/lang/Object"), (0, u "<init>"), (0, u "()V"), (1, .class_ 14), (1, u "java/lang/StringUTF16"), (31, u "$assertionsDisabled"), (0, u "Z"), (13, u "HI_BYTE_SHIFT"), (0, u "I"), (2, u "LO_BYTE_SHIFT"), (49, .methodref 12 116), (0, .nameAndType 117 118), (0, u "compress"), (0, u "([CI[BII)I"), (3, u "([CII)[B"), (138, u "coderFromArrayLen"), (0, u "([BI)B"), (106, .class_ 371), (1, u "java/lang/StringUTF16$LinesSpliterator"), (58, u "MAX_LENGTH"), (196, .class_ 628), (0, u "java/lang/StringUTF16$CodePointsSpliterator"), (0, .class_ 630), (0, u "java/lang/StringUTF16$CharsSpliterator")] 4

def k8m0 : Method := { name := "<init>", desc := "()V", sig := { parameters := [], returnType := none }, accessFlags := 0, code := none }
def k8c1 : Code := { maxStack := 2, maxLocals := 2, code := jdk_52_method_15_code, exceptionTable := #[], attributes := #[] }
def k8m1 : Method := { name := "coderFromArrayLen", desc := "([BI)B", sig := { parameters := [(.array .byte), .int], returnType := some .byte }, accessFlags := 8, code := some k8c1 }
def k8c2 : Code := { maxStack := 5, maxLocals := 6, code := jdk_52_method_16_code, exceptionTable := #[], attributes := #[] }
def k8m2 : Method := { name := "compress", desc := "([CII)[B", sig := { parameters := [(.array .char), .int, .int], returnType := some (.array .byte) }, accessFlags := 9, code := some k8c2 }
def k8c3 : Code := { maxStack := 3, maxLocals := 7, code := jdk_52_method_21_code, exceptionTable := #[], attributes := #[] }
def k8m3 : Method := { name := "compress", desc := "([CI[BII)I", sig := { parameters := [(.array .char), .int, (.array .byte), .int, .int], returnType := some .int }, accessFlags := 9, code := some k8c3 }
/-- java/lang/StringUTF16 -/
def k8 : Class := { plain "java/lang/StringUTF16" (some 0) with
  accessFlags := 48
  interfaces := #[]
  cf := some (fileOf pool8 12 #[.nestMembers #[627, 629, 369]] #[{ accessFlags := 0, nameIndex := 9, descriptorIndex := 10, attributes := #[] }, { accessFlags := 8, nameIndex := 261, descriptorIndex := 262, attributes := #[] }, { accessFlags := 9, nameIndex := 117, descriptorIndex := 122, attributes := #[] }, { accessFlags := 9, nameIndex := 117, descriptorIndex := 118, attributes := #[] }] 48 6 #[] #[{ accessFlags := 26, nameIndex := 61, descriptorIndex := 62, attributes := #[] }, { accessFlags := 26, nameIndex := 65, descriptorIndex := 62, attributes := #[] }, { accessFlags := 24, nameIndex := 430, descriptorIndex := 62, attributes := #[] }, { accessFlags := 4120, nameIndex := 46, descriptorIndex := 47, attributes := #[] }])
  fields := #[{ name := "HI_BYTE_SHIFT", type := .int, accessFlags := 26, slot := 0, constantValue := 0 }, { name := "LO_BYTE_SHIFT", type := .int, accessFlags := 26, slot := 1, constantValue := 0 }, { name := "MAX_LENGTH", type := .int, accessFlags := 24, slot := 2, constantValue := 0 }, { name := "$assertionsDisabled", type := .boolean, accessFlags := 4120, slot := 3, constantValue := 0 }]
  methods := #[k8m0, k8m1, k8m2, k8m3]
  instanceTypes := #[]
  staticTypes := #[.int, .int, .int, .boolean]
  resolved := Array.replicate 635 none
  statics := none }

def pool9 : Array CpInfo := pool [(2, .class_ 4), (0, .nameAndType 5 6), (0, u "java/lang/Object"), (0, u "<init>"), (0, u "()V"), (4, .class_ 13), (1, u "com/example/ranker/ranker/RunFile"), (102, u "DECIMAL_NUMBER"), (0, u "Ljava/util/regex/Pattern;"), (13, .class_ 132), (0, u "java/lang/StringBuilder"), (0, .methodref 131 3), (2, .methodref 131 137), (0, .nameAndType 138 139), (0, u "append"), (0, u "(Ljava/lang/String;)Ljava/lang/StringBuilder;"), (0, .methodref 131 141), (0, .nameAndType 142 143), (0, u "toString"), (0, u "()Ljava/lang/String;"), (17, .string 162), (0, u " "), (51, u "line"), (0, u "(Ljava/lang/String;Ljava/lang/String;ILjava/lang/String;Ljava/lang/String;)Ljava/lang/String;"), (17, .string 234), (0, u " Q0 "), (0, .methodref 131 236), (0, .nameAndType 138 237), (0, u "(I)Ljava/lang/StringBuilder;"), (6, u "TAG"), (0, u "Ljava/lang/String;")] 46

def k9m0 : Method := { name := "<init>", desc := "()V", sig := { parameters := [], returnType := none }, accessFlags := 2, code := none }
def k9c1 : Code := { maxStack := 2, maxLocals := 5, code := prog_24_method_5_code, exceptionTable := #[], attributes := #[] }
def k9m1 : Method := { name := "line", desc := "(Ljava/lang/String;Ljava/lang/String;ILjava/lang/String;Ljava/lang/String;)Ljava/lang/String;", sig := { parameters := [(.object "java/lang/String"), (.object "java/lang/String"), .int, (.object "java/lang/String"), (.object "java/lang/String")], returnType := some (.object "java/lang/String") }, accessFlags := 8, code := some k9c1 }
/-- com/example/ranker/ranker/RunFile -/
def k9 : Class := { plain "com/example/ranker/ranker/RunFile" (some 0) with
  accessFlags := 33
  interfaces := #[]
  cf := some (fileOf pool9 11 #[] #[{ accessFlags := 2, nameIndex := 5, descriptorIndex := 6, attributes := #[] }, { accessFlags := 8, nameIndex := 214, descriptorIndex := 215, attributes := #[] }] 33 2 #[] #[{ accessFlags := 24, nameIndex := 244, descriptorIndex := 245, attributes := #[] }, { accessFlags := 26, nameIndex := 116, descriptorIndex := 117, attributes := #[] }])
  fields := #[{ name := "TAG", type := (.object "java/lang/String"), accessFlags := 24, slot := 0, constantValue := 0 }, { name := "DECIMAL_NUMBER", type := (.object "java/util/regex/Pattern"), accessFlags := 26, slot := 1, constantValue := 0 }]
  methods := #[k9m0, k9m1]
  instanceTypes := #[]
  staticTypes := #[(.object "java/lang/String"), (.object "java/util/regex/Pattern")]
  resolved := Array.replicate 292 none
  statics := none }

def pool10 : Array CpInfo := pool [(1, .class_ 2), (0, u "java/lang/Appendable"), (0, .class_ 4), (0, u "java/lang/Object")] 9

/-- java/lang/Appendable -/
def k10 : Class := { plain "java/lang/Appendable" (some 0) with
  accessFlags := 1537
  interfaces := #[]
  cf := some (fileOf pool10 1 #[] #[] 1537 3 #[] #[])
  fields := #[]
  methods := #[]
  instanceTypes := #[]
  staticTypes := #[]
  resolved := Array.replicate 14 none
  statics := none }

def pool11 : Array CpInfo := pool [(1, .class_ 2), (0, u "java/lang/String"), (0, .methodref 4 5), (0, .class_ 6), (0, .nameAndType 7 8), (0, u "java/lang/Object"), (0, u "<init>"), (0, u "()V"), (1, .class_ 12), (1, u "java/lang/AbstractStringBuilder"), (0, u "EMPTYVALUE"), (0, u "[B"), (0, .fieldref 10 16), (0, .nameAndType 17 14), (0, u "value"), (0, .fieldref 1 19), (0, .nameAndType 20 21), (0, u "COMPACT_STRINGS"), (0, u "Z"), (0, .fieldref 10 23), (0, .nameAndType 24 25), (0, u "coder"), (0, u "B"), (6, .methodref 1 33), (0, .nameAndType 34 35), (0, u "length"), (0, u "()I"), (0, .class_ 37), (0, u "java/lang/Integer"), (1, .integer 2147483647), (0, .methodref 1 41), (0, .nameAndType 24 42), (0, u "()B"), (2, u "append"), (0, u "(Ljava/lang/String;)Ljava/lang/AbstractStringBuilder;"), (1, .class_ 49), (0, u "java/lang/CharSequence"), (19, u "(Ljava/lang/String;)V"), (5, u "maybeLatin1"), (3, .fieldref 10 80), (0, .nameAndType 81 82), (0, u "count"), (0, u "I"), (0, .methodref 10 84), (0, .nameAndType 85 86), (0, u "isLatin1"), (0, u "()Z"), (13, .methodref 10 101), (0, .nameAndType 102 103), (0, u "ensureCapacityInternal"), (0, u "(I)V"), (0, .methodref 10 105), (0, .nameAndType 106 107), (0, u "newCapacity"), (0, u "(I)I"), (0, .methodref 109 110), (0, .class_ 111), (0, .nameAndType 112 113), (0, u "java/util/Arrays"), (0, u "copyOf"), (0, u "([BI)[B"), (0, .methodref 115 116), (0, .class_ 117), (0, .nameAndType 118 119), (0, u "jdk/internal/util/ArraysSupport"), (0, u "newLength"), (0, u "(III)I"), (68, u "getChars"), (19, .methodref 10 209), (0, .nameAndType 210 211), (0, u "putStringAt"), (0, u "(ILjava/lang/String;)V"), (5, u "inflateIfNeededFor"), (2, .nameAndType 221 222), (0, u "getBytes"), (0, u "([BIB)V"), (22, .methodref 36 246), (0, .nameAndType 247 107), (0, u "stringSize"), (0, .methodref 36 249), (0, .nameAndType 188 250), (0, u "(II[B)I"), (146, .methodref 10 398), (0, .nameAndType 217 69), (0, .methodref 1 220), (3, u "()[B"), (40, .class_ 445), (0, u "java/lang/Appendable"), (65, u "(I)Ljava/lang/AbstractStringBuilder;"), (40, u "getValue")] 56

def k11m0 : Method := { name := "<init>", desc := "()V", sig := { parameters := [], returnType := none }, accessFlags := 0, code := none }
def k11c1 : Code := { maxStack := 2, maxLocals := 2, code := jdk_68_method_2_code, exceptionTable := #[], attributes := #[] }
def k11m1 : Method := { name := "<init>", desc := "(I)V", sig := { parameters := [.int], returnType := none }, accessFlags := 0, code := some k11c1 }
def k11c2 : Code := { maxStack := 1, maxLocals := 1, code := jdk_68_method_6_code, exceptionTable := #[], attributes := #[] }
def k11m2 : Method := { name := "length", desc := "()I", sig := { parameters := [], returnType := some .int }, accessFlags := 1, code := some k11c2 }
def k11c3 : Code := { maxStack := 4, maxLocals := 3, code := jdk_68_method_9_code, exceptionTable := #[], attributes := #[] }
def k11m3 : Method := { name := "ensureCapacityInternal", desc := "(I)V", sig := { parameters := [.int], returnType := none }, accessFlags := 2, code := some k11c3 }
def k11c4 : Code := { maxStack := 5, maxLocals := 6, code := jdk_68_method_10_code, exceptionTable := #[], attributes := #[] }
def k11m4 : Method := { name := "newCapacity", desc := "(I)I", sig := { parameters := [.int], returnType := some .int }, accessFlags := 2, code := some k11c4 }
def k11c5 : Code := { maxStack := 3, maxLocals := 3, code := jdk_68_method_22_code, exceptionTable := #[], attributes := #[] }
def k11m5 : Method := { name := "append", desc := "(Ljava/lang/String;)Ljava/lang/AbstractStringBuilder;", sig := { parameters := [(.object "java/lang/String")], returnType := some (.object "java/lang/AbstractStringBuilder") }, accessFlags := 1, code := some k11c5 }
def k11c6 : Code := { maxStack := 4, maxLocals := 4, code := jdk_68_method_32_code, exceptionTable := #[], attributes := #[] }
def k11m6 : Method := { name := "append", desc := "(I)Ljava/lang/AbstractStringBuilder;", sig := { parameters := [.int], returnType := some (.object "java/lang/AbstractStringBuilder") }, accessFlags := 1, code := some k11c6 }
def k11c7 : Code := { maxStack := 1, maxLocals := 1, code := jdk_68_method_64_code, exceptionTable := #[], attributes := #[] }
def k11m7 : Method := { name := "getValue", desc := "()[B", sig := { parameters := [], returnType := some (.array .byte) }, accessFlags := 16, code := some k11c7 }
def k11c8 : Code := { maxStack := 1, maxLocals := 1, code := jdk_68_method_68_code, exceptionTable := #[], attributes := #[] }
def k11m8 : Method := { name := "isLatin1", desc := "()Z", sig := { parameters := [], returnType := some .boolean }, accessFlags := 16, code := some k11c8 }
def k11c9 : Code := { maxStack := 2, maxLocals := 2, code := jdk_68_method_71_code, exceptionTable := #[], attributes := #[] }
def k11m9 : Method := { name := "inflateIfNeededFor", desc := "(Ljava/lang/String;)V", sig := { parameters := [(.object "java/lang/String")], returnType := none }, accessFlags := 2, code := some k11c9 }
def k11c10 : Code := { maxStack := 4, maxLocals := 3, code := jdk_68_method_73_code, exceptionTable := #[], attributes := #[] }
def k11m10 : Method := { name := "putStringAt", desc := "(ILjava/lang/String;)V", sig := { parameters := [.int, (.object "java/lang/String")], returnType := none }, accessFlags := 2, code := some k11c10 }
/-- java/lang/AbstractStringBuilder -/
def k11 : Class := { plain "java/lang/AbstractStringBuilder" (some 0) with
  accessFlags := 1056
  interfaces := #[10, 4]
  cf := some (fileOf pool11 10 #[] #[{ accessFlags := 0, nameIndex := 7, descriptorIndex := 8, attributes := #[] }, { accessFlags := 0, nameIndex := 7, descriptorIndex := 103, attributes := #[] }, { accessFlags := 1, nameIndex := 34, descriptorIndex := 35, attributes := #[] }, { accessFlags := 2, nameIndex := 102, descriptorIndex := 103, attributes := #[] }, { accessFlags := 2, nameIndex := 106, descriptorIndex := 107, attributes := #[] }, { accessFlags := 1, nameIndex := 45, descriptorIndex := 46, attributes := #[] }, { accessFlags := 1, nameIndex := 45, descriptorIndex := 511, attributes := #[] }, { accessFlags := 16, nameIndex := 552, descriptorIndex := 403, attributes := #[] }, { accessFlags := 16, nameIndex := 85, descriptorIndex := 86, attributes := #[] }, { accessFlags := 2, nameIndex := 217, descriptorIndex := 69, attributes := #[] }, { accessFlags := 2, nameIndex := 210, descriptorIndex := 211, attributes := #[] }] 1056 4 #[444, 48] #[{ accessFlags := 0, nameIndex := 17, descriptorIndex := 14, attributes := #[] }, { accessFlags := 0, nameIndex := 24, descriptorIndex := 25, attributes := #[] }, { accessFlags := 0, nameIndex := 75, descriptorIndex := 21, attributes := #[] }, { accessFlags := 0, nameIndex := 81, descriptorIndex := 82, attributes := #[] }, { accessFlags := 26, nameIndex := 13, descriptorIndex := 14, attributes := #[] }])
  fields := #[{ name := "value", type := (.array .byte), accessFlags := 0, slot := 0, constantValue := 0 }, { name := "coder", type := .byte, accessFlags := 0, slot := 1, constantValue := 0 }, { name := "maybeLatin1", type := .boolean, accessFlags := 0, slot := 2, constantValue := 0 }, { name := "count", type := .int, accessFlags := 0, slot := 3, constantValue := 0 }, { name := "EMPTYVALUE", type := (.array .byte), accessFlags := 26, slot := 0, constantValue := 0 }]
  methods := #[k11m0, k11m1, k11m2, k11m3, k11m4, k11m5, k11m6, k11m7, k11m8, k11m9, k11m10]
  instanceTypes := #[(.array .byte), .byte, .boolean, .int]
  staticTypes := #[(.array .byte)]
  resolved := Array.replicate 609 none
  statics := none }

def pool12 : Array CpInfo := pool [(1, .methodref 2 3), (0, .class_ 4), (0, .nameAndType 5 6), (0, u "java/lang/AbstractStringBuilder"), (0, u "<init>"), (0, u "(I)V"), (11, .class_ 20), (1, u "java/lang/String"), (3, .class_ 26), (1, u "java/lang/StringBuilder"), (0, u "append"), (0, u "(Ljava/lang/String;)Ljava/lang/StringBuilder;"), (0, .methodref 2 30), (0, .nameAndType 27 31), (0, u "(Ljava/lang/String;)Ljava/lang/AbstractStringBuilder;"), (21, .methodref 2 54), (0, .nameAndType 27 55), (0, u "(I)Ljava/lang/AbstractStringBuilder;"), (81, .methodref 18 138), (0, .nameAndType 5 139), (0, u "(Ljava/lang/StringBuilder;)V"), (5, u "()V"), (10, u "()I"), (111, u "(I)Ljava/lang/StringBuilder;"), (74, .methodref 2 344), (0, .nameAndType 345 156), (0, u "length"), (3, .class_ 350), (0, u "java/lang/Appendable"), (0, .class_ 352), (0, u "java/io/Serializable"), (0, .class_ 354), (0, u "java/lang/Comparable"), (0, .class_ 356), (0, u "java/lang/CharSequence"), (0, u "serialVersionUID"), (0, u "J"), (40, u "toString"), (0, u "()Ljava/lang/String;")] 21

def k12c0 : Code := { maxStack := 2, maxLocals := 1, code := jdk_67_method_1_code, exceptionTable := #[], attributes := #[] }
def k12m0 : Method := { name := "<init>", desc := "()V", sig := { parameters := [], returnType := none }, accessFlags := 1, code := some k12c0 }
def k12c1 : Code := { maxStack := 2, maxLocals := 2, code := jdk_67_method_7_code, exceptionTable := #[], attributes := #[] }
def k12m1 : Method := { name := "append", desc := "(Ljava/lang/String;)Ljava/lang/StringBuilder;", sig := { parameters := [(.object "java/lang/String")], returnType := some (.object "java/lang/StringBuilder") }, accessFlags := 1, code := some k12c1 }
def k12c2 : Code := { maxStack := 2, maxLocals := 2, code := jdk_67_method_15_code, exceptionTable := #[], attributes := #[] }
def k12m2 : Method := { name := "append", desc := "(I)Ljava/lang/StringBuilder;", sig := { parameters := [.int], returnType := some (.object "java/lang/StringBuilder") }, accessFlags := 1, code := some k12c2 }
def k12c3 : Code := { maxStack := 3, maxLocals := 1, code := jdk_67_method_42_code, exceptionTable := #[], attributes := #[] }
def k12m3 : Method := { name := "toString", desc := "()Ljava/lang/String;", sig := { parameters := [], returnType := some (.object "java/lang/String") }, accessFlags := 1, code := some k12c3 }
def k12c4 : Code := { maxStack := 1, maxLocals := 1, code := jdk_67_method_93_code, exceptionTable := #[], attributes := #[] }
def k12m4 : Method := { name := "length", desc := "()I", sig := { parameters := [], returnType := some .int }, accessFlags := 4161, code := some k12c4 }
/-- java/lang/StringBuilder -/
def k12 : Class := { plain "java/lang/StringBuilder" (some 11) with
  accessFlags := 49
  interfaces := #[10, 2, 3, 4]
  cf := some (fileOf pool12 24 #[] #[{ accessFlags := 1, nameIndex := 5, descriptorIndex := 145, attributes := #[] }, { accessFlags := 1, nameIndex := 27, descriptorIndex := 28, attributes := #[] }, { accessFlags := 1, nameIndex := 27, descriptorIndex := 268, attributes := #[] }, { accessFlags := 1, nameIndex := 399, descriptorIndex := 400, attributes := #[] }, { accessFlags := 4161, nameIndex := 345, descriptorIndex := 156, attributes := #[] }] 49 2 #[349, 351, 353, 355] #[{ accessFlags := 24, nameIndex := 357, descriptorIndex := 358, attributes := #[] }])
  fields := #[{ name := "serialVersionUID", type := .long, accessFlags := 24, slot := 0, constantValue := 0 }]
  methods := #[k12m0, k12m1, k12m2, k12m3, k12m4]
  instanceTypes := #[(.array .byte), .byte, .boolean, .int]
  staticTypes := #[.long]
  resolved := Array.replicate 422 none
  statics := none }

def pool13 : Array CpInfo := pool [(2, .class_ 4), (1, u "java/lang/Object"), (0, u "<init>"), (0, u "()V"), (1, .class_ 10), (1, u "java/lang/System"), (0, u "allowSecurityManager"), (0, u "I"), (16, u "cons"), (0, u "Ljava/io/Console;"), (77, .class_ 110), (1, u "java/lang/System$CallersHolder"), (43, u "initialErrStream"), (0, u "Ljava/io/PrintStream;"), (19, u "security"), (0, u "Ljava/lang/SecurityManager;"), (31, .class_ 209), (0, u "java/lang/System$1"), (7, u "props"), (0, u "Ljava/util/Properties;"), (2, u "lineSeparator"), (0, u "Ljava/lang/String;"), (96, .class_ 321), (1, u "java/lang/System$LoggerFinder"), (5, .class_ 328), (0, u "java/lang/System$Logger"), (67, u "err"), (2, u "out"), (91, u "notSupportedJnuEncoding"), (15, u "in"), (17, u "initialIn"), (0, u "Ljava/io/InputStream;"), (35, u "bootLayer"), (0, u "Ljava/lang/ModuleLayer;"), (99, .class_ 664), (0, u "java/lang/System$2"), (9, u "NEVER"), (2, u "MAYBE"), (49, u "arraycopy"), (0, u "(Ljava/lang/Object;ILjava/lang/Object;II)V"), (72, .class_ 802), (0, u "java/lang/System$Logger$Level")] 31

def k13m0 : Method := { name := "<init>", desc := "()V", sig := { parameters := [], returnType := none }, accessFlags := 2, code := none }
def k13m1 : Method := { name := "arraycopy", desc := "(Ljava/lang/Object;ILjava/lang/Object;II)V", sig := { parameters := [(.object "java/lang/Object"), .int, (.object "java/lang/Object"), .int, .int], returnType := none }, accessFlags := 265, code := none }
/-- java/lang/System -/
def k13 : Class := { plain "java/lang/System" (some 0) with
  accessFlags := 49
  interfaces := #[]
  cf := some (fileOf pool13 8 #[.nestMembers #[319, 327, 801, 108, 663, 208]] #[{ accessFlags := 2, nameIndex := 5, descriptorIndex := 6, attributes := #[] }, { accessFlags := 265, nameIndex := 727, descriptorIndex := 728, attributes := #[] }] 49 2 #[] #[{ accessFlags := 25, nameIndex := 507, descriptorIndex := 526, attributes := #[] }, { accessFlags := 25, nameIndex := 399, descriptorIndex := 155, attributes := #[] }, { accessFlags := 25, nameIndex := 396, descriptorIndex := 155, attributes := #[] }, { accessFlags := 10, nameIndex := 525, descriptorIndex := 526, attributes := #[] }, { accessFlags := 26, nameIndex := 674, descriptorIndex := 12, attributes := #[] }, { accessFlags := 26, nameIndex := 677, descriptorIndex := 12, attributes := #[] }, { accessFlags := 10, nameIndex := 11, descriptorIndex := 12, attributes := #[] }, { accessFlags := 74, nameIndex := 175, descriptorIndex := 176, attributes := #[] }, { accessFlags := 10, nameIndex := 491, descriptorIndex := 222, attributes := #[] }, { accessFlags := 74, nameIndex := 29, descriptorIndex := 30, attributes := #[] }, { accessFlags := 74, nameIndex := 154, descriptorIndex := 155, attributes := #[] }, { accessFlags := 10, nameIndex := 217, descriptorIndex := 218, attributes := #[] }, { accessFlags := 10, nameIndex := 221, descriptorIndex := 222, attributes := #[] }, { accessFlags := 8, nameIndex := 562, descriptorIndex := 563, attributes := #[] }])
  fields := #[{ name := "in", type := (.object "java/io/InputStream"), accessFlags := 25, slot := 0, constantValue := 0 }, { name := "out", type := (.object "java/io/PrintStream"), accessFlags := 25, slot := 1, constantValue := 0 }, { name := "err", type := (.object "java/io/PrintStream"), accessFlags := 25, slot := 2, constantValue := 0 }, { name := "initialIn", type := (.object "java/io/InputStream"), accessFlags := 10, slot := 3, constantValue := 0 }, { name := "NEVER", type := .int, accessFlags := 26, slot := 4, constantValue := 0 }, { name := "MAYBE", type := .int, accessFlags := 26, slot := 5, constantValue := 0 }, { name := "allowSecurityManager", type := .int, accessFlags := 10, slot := 6, constantValue := 0 }, { name := "security", type := (.object "java/lang/SecurityManager"), accessFlags := 74, slot := 7, constantValue := 0 }, { name := "notSupportedJnuEncoding", type := (.object "java/lang/String"), accessFlags := 10, slot := 8, constantValue := 0 }, { name := "cons", type := (.object "java/io/Console"), accessFlags := 74, slot := 9, constantValue := 0 }, { name := "initialErrStream", type := (.object "java/io/PrintStream"), accessFlags := 74, slot := 10, constantValue := 0 }, { name := "props", type := (.object "java/util/Properties"), accessFlags := 10, slot := 11, constantValue := 0 }, { name := "lineSeparator", type := (.object "java/lang/String"), accessFlags := 10, slot := 12, constantValue := 0 }, { name := "bootLayer", type := (.object "java/lang/ModuleLayer"), accessFlags := 8, slot := 13, constantValue := 0 }]
  methods := #[k13m0, k13m1]
  instanceTypes := #[]
  staticTypes := #[(.object "java/io/InputStream"), (.object "java/io/PrintStream"), (.object "java/io/PrintStream"), (.object "java/io/InputStream"), .int, .int, .int, (.object "java/lang/SecurityManager"), (.object "java/lang/String"), (.object "java/io/Console"), (.object "java/io/PrintStream"), (.object "java/util/Properties"), (.object "java/lang/String"), (.object "java/lang/ModuleLayer")]
  resolved := Array.replicate 834 none
  statics := none }

def pool14 : Array CpInfo := pool [(2, .class_ 4), (1, u "java/lang/Object"), (0, u "<init>"), (0, u "()V"), (1, .class_ 10), (1, u "java/lang/Number"), (2, .class_ 14), (0, u "java/io/Serializable"), (0, u "serialVersionUID"), (0, u "J")] 20

def k14m0 : Method := { name := "<init>", desc := "()V", sig := { parameters := [], returnType := none }, accessFlags := 1, code := none }
/-- java/lang/Number -/
def k14 : Class := { plain "java/lang/Number" (some 0) with
  accessFlags := 1057
  interfaces := #[2]
  cf := some (fileOf pool14 8 #[] #[{ accessFlags := 1, nameIndex := 5, descriptorIndex := 6, attributes := #[] }] 1057 2 #[13] #[{ accessFlags := 26, nameIndex := 15, descriptorIndex := 16, attributes := #[] }])
  fields := #[{ name := "serialVersionUID", type := .long, accessFlags := 26, slot := 0, constantValue := 0 }]
  methods := #[k14m0]
  instanceTypes := #[]
  staticTypes := #[.long]
  resolved := Array.replicate 37 none
  statics := none }

def pool15 : Array CpInfo := pool [(1, .class_ 2), (0, u "java/lang/Integer"), (16, u "digits"), (0, u "[C"), (33, u "(I)I"), (19, u "stringSize"), (2, u "getChars"), (0, u "(II[B)I"), (4, .fieldref 1 84), (0, .nameAndType 85 86), (0, u "DigitOnes"), (0, u "[B"), (0, .fieldref 1 88), (0, .nameAndType 89 86), (0, u "DigitTens"), (99, .class_ 190), (0, u "java/lang/Integer$IntegerCache"), (3, u "I"), (8, .class_ 204), (0, u "java/lang/Number"), (2, u "value"), (94, u "TYPE"), (0, u "Ljava/lang/Class;"), (0, .class_ 305), (0, u "java/lang/Comparable"), (0, .class_ 307), (0, u "java/lang/constant/Constable"), (0, .class_ 309), (0, u "java/lang/constant/ConstantDesc"), (0, u "MIN_VALUE"), (1, u "MAX_VALUE"), (3, u "SIZE"), (1, u "BYTES"), (1, u "serialVersionUID"), (0, u "J")] 131

def k15c0 : Code := { maxStack := 4, maxLocals := 7, code := jdk_33_method_12_code, exceptionTable := #[], attributes := #[] }
def k15m0 : Method := { name := "getChars", desc := "(II[B)I", sig := { parameters := [.int, .int, (.array .byte)], returnType := some .int }, accessFlags := 8, code := some k15c0 }
def k15c1 : Code := { maxStack := 2, maxLocals := 4, code := jdk_33_method_13_code, exceptionTable := #[], attributes := #[] }
def k15m1 : Method := { name := "stringSize", desc := "(I)I", sig := { parameters := [.int], returnType := some .int }, accessFlags := 8, code := some k15c1 }
/-- java/lang/Integer -/
def k15 : Class := { plain "java/lang/Integer" (some 14) with
  accessFlags := 49
  interfaces := #[3, 5, 6]
  cf := some (fileOf pool15 1 #[.nestMembers #[189]] #[{ accessFlags := 8, nameIndex := 77, descriptorIndex := 78, attributes := #[] }, { accessFlags := 8, nameIndex := 74, descriptorIndex := 54, attributes := #[] }] 49 203 #[304, 306, 308] #[{ accessFlags := 25, nameIndex := 310, descriptorIndex := 194, attributes := #[] }, { accessFlags := 25, nameIndex := 312, descriptorIndex := 194, attributes := #[] }, { accessFlags := 25, nameIndex := 302, descriptorIndex := 303, attributes := #[] }, { accessFlags := 24, nameIndex := 19, descriptorIndex := 20, attributes := #[] }, { accessFlags := 24, nameIndex := 89, descriptorIndex := 86, attributes := #[] }, { accessFlags := 24, nameIndex := 85, descriptorIndex := 86, attributes := #[] }, { accessFlags := 18, nameIndex := 207, descriptorIndex := 194, attributes := #[] }, { accessFlags := 25, nameIndex := 316, descriptorIndex := 194, attributes := #[] }, { accessFlags := 25, nameIndex := 318, descriptorIndex := 194, attributes := #[] }, { accessFlags := 26, nameIndex := 320, descriptorIndex := 321, attributes := #[] }])
  fields := #[{ name := "MIN_VALUE", type := .int, accessFlags := 25, slot := 0, constantValue := 0 }, { name := "MAX_VALUE", type := .int, accessFlags := 25, slot := 1, constantValue := 0 }, { name := "TYPE", type := (.object "java/lang/Class"), accessFlags := 25, slot := 2, constantValue := 0 }, { name := "digits", type := (.array .char), accessFlags := 24, slot := 3, constantValue := 0 }, { name := "DigitTens", type := (.array .byte), accessFlags := 24, slot := 4, constantValue := 0 }, { name := "DigitOnes", type := (.array .byte), accessFlags := 24, slot := 5, constantValue := 0 }, { name := "value", type := .int, accessFlags := 18, slot := 0, constantValue := 0 }, { name := "SIZE", type := .int, accessFlags := 25, slot := 6, constantValue := 0 }, { name := "BYTES", type := .int, accessFlags := 25, slot := 7, constantValue := 0 }, { name := "serialVersionUID", type := .long, accessFlags := 26, slot := 8, constantValue := 0 }]
  methods := #[k15m0, k15m1]
  instanceTypes := #[.int]
  staticTypes := #[.int, .int, (.object "java/lang/Class"), (.array .char), (.array .byte), (.array .byte), .int, .int, .long]
  resolved := Array.replicate 453 none
  statics := some 1 }

def pool16 : Array CpInfo := pool [(2, .class_ 4), (1, u "java/lang/Object"), (0, u "<init>"), (0, u "()V"), (7, .class_ 16), (1, u "java/util/Arrays"), (57, .class_ 76), (1, u "java/util/Arrays$NaturalOrder"), (32, u "()Ljava/lang/Object;"), (3, .class_ 115), (1, u "java/util/Arrays$LegacyMergeSort"), (1, u "Z"), (10, .nameAndType 129 109), (0, u "clone"), (9, u "copyOfRange"), (10, .methodref 151 152), (0, .class_ 153), (0, .nameAndType 154 155), (0, u "java/lang/System"), (0, u "arraycopy"), (0, u "(Ljava/lang/Object;ILjava/lang/Object;II)V"), (146, u "copyOf"), (1, .methodref 305 306), (0, .class_ 307), (0, .nameAndType 308 309), (0, u "java/lang/Math"), (0, u "min"), (0, u "(II)I"), (0, .methodref 311 128), (0, .class_ 312), (0, u "[B"), (26, .methodref 14 340), (0, .nameAndType 341 342), (0, u "copyOfRangeByte"), (0, u "([BII)[B"), (0, .methodref 14 344), (0, .nameAndType 345 346), (0, u "checkLength"), (0, u "(II)V"), (28, .class_ 376), (0, u "java/util/Arrays$ArrayList"), (68, u "$assertionsDisabled"), (269, u "MIN_ARRAY_SORT_GRAN"), (0, u "I"), (2, u "INSERTIONSORT_THRESHOLD"), (149, u "([BI)[B"), (105, .class_ 976), (0, u "java/util/Arrays$ArrayItr")] 52

def k16m0 : Method := { name := "<init>", desc := "()V", sig := { parameters := [], returnType := none }, accessFlags := 2, code := none }
def k16c1 : Code := { maxStack := 6, maxLocals := 3, code := jdk_65_method_121_code, exceptionTable := #[], attributes := #[] }
def k16m1 : Method := { name := "copyOf", desc := "([BI)[B", sig := { parameters := [(.array .byte), .int], returnType := some (.array .byte) }, accessFlags := 9, code := some k16c1 }
def k16c2 : Code := { maxStack := 4, maxLocals := 2, code := jdk_65_method_131_code, exceptionTable := #[], attributes := #[] }
def k16m2 : Method := { name := "checkLength", desc := "(II)V", sig := { parameters := [.int, .int], returnType := none }, accessFlags := 10, code := some k16c2 }
def k16c3 : Code := { maxStack := 3, maxLocals := 3, code := jdk_65_method_132_code, exceptionTable := #[], attributes := #[] }
def k16m3 : Method := { name := "copyOfRange", desc := "([BII)[B", sig := { parameters := [(.array .byte), .int, .int], returnType := some (.array .byte) }, accessFlags := 9, code := some k16c3 }
def k16c4 : Code := { maxStack := 6, maxLocals := 5, code := jdk_65_method_133_code, exceptionTable := #[], attributes := #[] }
def k16m4 : Method := { name := "copyOfRangeByte", desc := "([BII)[B", sig := { parameters := [(.array .byte), .int, .int], returnType := some (.array .byte) }, accessFlags := 10, code := some k16c4 }
/-- java/util/Arrays -/
def k16 : Class := { plain "java/util/Arrays" (some 0) with
  accessFlags := 49
  interfaces := #[]
  cf := some (fileOf pool16 14 #[.nestMembers #[975, 375, 113, 74]] #[{ accessFlags := 2, nameIndex := 5, descriptorIndex := 6, attributes := #[] }, { accessFlags := 9, nameIndex := 302, descriptorIndex := 869, attributes := #[] }, { accessFlags := 10, nameIndex := 345, descriptorIndex := 346, attributes := #[] }, { accessFlags := 9, nameIndex := 139, descriptorIndex := 342, attributes := #[] }, { accessFlags := 10, nameIndex := 341, descriptorIndex := 342, attributes := #[] }] 49 2 #[] #[{ accessFlags := 26, nameIndex := 715, descriptorIndex := 716, attributes := #[] }, { accessFlags := 26, nameIndex := 719, descriptorIndex := 716, attributes := #[] }, { accessFlags := 4120, nameIndex := 445, descriptorIndex := 117, attributes := #[] }])
  fields := #[{ name := "MIN_ARRAY_SORT_GRAN", type := .int, accessFlags := 26, slot := 0, constantValue := 0 }, { name := "INSERTIONSORT_THRESHOLD", type := .int, accessFlags := 26, slot := 1, constantValue := 0 }, { name := "$assertionsDisabled", type := .boolean, accessFlags := 4120, slot := 2, constantValue := 0 }]
  methods := #[k16m0, k16m1, k16m2, k16m3, k16m4]
  instanceTypes := #[]
  staticTypes := #[.int, .int, .boolean]
  resolved := Array.replicate 1029 none
  statics := none }

def pool17 : Array CpInfo := pool [(1, .class_ 2), (0, u "java/lang/Math"), (1, .class_ 6), (1, u "java/lang/Object"), (0, u "<init>"), (0, u "()V"), (89, .class_ 100), (1, u "java/lang/Math$RandomNumberGeneratorHolder"), (23, u "abs"), (0, u "(J)J"), (46, u "negativeZeroFloatBits"), (0, u "J"), (2, u "negativeZeroDoubleBits"), (21, u "max"), (2, u "min"), (43, u "$assertionsDisabled"), (0, u "Z"), (88, u "(II)I"), (2, u "twoToTheDoubleScaleDown"), (0, u "D"), (4, u "twoToTheDoubleScaleUp"), (9, u "E"), (3, u "PI"), (2, u "TAU"), (2, u "DEGREES_TO_RADIANS"), (0, u "RADIANS_TO_DEGREES")] 94

def k17m0 : Method := { name := "<init>", desc := "()V", sig := { parameters := [], returnType := none }, accessFlags := 2, code := none }
def k17c1 : Code := { maxStack := 4, maxLocals := 2, code := jdk_29_method_61_code, exceptionTable := #[], attributes := #[] }
def k17m1 : Method := { name := "abs", desc := "(J)J", sig := { parameters := [.long], returnType := some .long }, accessFlags := 9, code := some k17c1 }
def k17c2 : Code := { maxStack := 2, maxLocals := 2, code := jdk_29_method_65_code, exceptionTable := #[], attributes := #[] }
def k17m2 : Method := { name := "max", desc := "(II)I", sig := { parameters := [.int, .int], returnType := some .int }, accessFlags := 9, code := some k17c2 }
def k17c3 : Code := { maxStack := 2, maxLocals := 2, code := jdk_29_method_69_code, exceptionTable := #[], attributes := #[] }
def k17m3 : Method := { name := "min", desc := "(II)I", sig := { parameters := [.int, .int], returnType := some .int }, accessFlags := 9, code := some k17c3 }
/-- java/lang/Math -/
def k17 : Class := { plain "java/lang/Math" (some 0) with
  accessFlags := 49
  interfaces := #[]
  cf := some (fileOf pool17 1 #[.nestMembers #[98]] #[{ accessFlags := 2, nameIndex := 7, descriptorIndex := 8, attributes := #[] }, { accessFlags := 9, nameIndex := 124, descriptorIndex := 125, attributes := #[] }, { accessFlags := 9, nameIndex := 198, descriptorIndex := 335, attributes := #[] }, { accessFlags := 9, nameIndex := 201, descriptorIndex := 335, attributes := #[] }] 49 4 #[] #[{ accessFlags := 25, nameIndex := 354, descriptorIndex := 339, attributes := #[] }, { accessFlags := 25, nameIndex := 358, descriptorIndex := 339, attributes := #[] }, { accessFlags := 25, nameIndex := 361, descriptorIndex := 339, attributes := #[] }, { accessFlags := 26, nameIndex := 364, descriptorIndex := 339, attributes := #[] }, { accessFlags := 26, nameIndex := 365, descriptorIndex := 339, attributes := #[] }, { accessFlags := 26, nameIndex := 172, descriptorIndex := 173, attributes := #[] }, { accessFlags := 26, nameIndex := 176, descriptorIndex := 173, attributes := #[] }, { accessFlags := 8, nameIndex := 344, descriptorIndex := 339, attributes := #[] }, { accessFlags := 8, nameIndex := 338, descriptorIndex := 339, attributes := #[] }, { accessFlags := 4120, nameIndex := 245, descriptorIndex := 246, attributes := #[] }])
  fields := #[{ name := "E", type := .double, accessFlags := 25, slot := 0, constantValue := 0 }, { name := "PI", type := .double, accessFlags := 25, slot := 1, constantValue := 0 }, { name := "TAU", type := .double, accessFlags := 25, slot := 2, constantValue := 0 }, { name := "DEGREES_TO_RADIANS", type := .double, accessFlags := 26, slot := 3, constantValue := 0 }, { name := "RADIANS_TO_DEGREES", type := .double, accessFlags := 26, slot := 4, constantValue := 0 }, { name := "negativeZeroFloatBits", type := .long, accessFlags := 26, slot := 5, constantValue := 0 }, { name := "negativeZeroDoubleBits", type := .long, accessFlags := 26, slot := 6, constantValue := 0 }, { name := "twoToTheDoubleScaleUp", type := .double, accessFlags := 8, slot := 7, constantValue := 0 }, { name := "twoToTheDoubleScaleDown", type := .double, accessFlags := 8, slot := 8, constantValue := 0 }, { name := "$assertionsDisabled", type := .boolean, accessFlags := 4120, slot := 9, constantValue := 0 }]
  methods := #[k17m0, k17m1, k17m2, k17m3]
  instanceTypes := #[]
  staticTypes := #[.double, .double, .double, .double, .double, .long, .long, .double, .double, .boolean]
  resolved := Array.replicate 460 none
  statics := none }

def pool18 : Array CpInfo := pool [(1, .class_ 2), (0, u "java/lang/String"), (1, .class_ 6), (1, u "java/lang/Object"), (0, u "<init>"), (0, u "()V"), (0, .methodref 1 10), (0, .nameAndType 11 12), (0, u "checkIndex"), (0, u "(II)V"), (1, .class_ 16), (1, u "java/lang/StringLatin1"), (36, u "([BI)C"), (67, u "$assertionsDisabled"), (0, u "Z"), (98, .class_ 223), (1, u "java/lang/StringLatin1$LinesSpliterator"), (28, u "charAt"), (137, .class_ 391), (0, u "java/lang/StringLatin1$CharsSpliterator")] 3

def k18m0 : Method := { name := "<init>", desc := "()V", sig := { parameters := [], returnType := none }, accessFlags := 0, code := none }
def k18c1 : Code := { maxStack := 2, maxLocals := 2, code := jdk_43_method_2_code, exceptionTable := #[], attributes := #[] }
def k18m1 : Method := { name := "charAt", desc := "([BI)C", sig := { parameters := [(.array .byte), .int], returnType := some .char }, accessFlags := 9, code := some k18c1 }
/-- java/lang/StringLatin1 -/
def k18 : Class := { plain "java/lang/StringLatin1" (some 0) with
  accessFlags := 48
  interfaces := #[]
  cf := some (fileOf pool18 14 #[.nestMembers #[390, 221]] #[{ accessFlags := 0, nameIndex := 7, descriptorIndex := 8, attributes := #[] }, { accessFlags := 9, nameIndex := 252, descriptorIndex := 53, attributes := #[] }] 48 4 #[] #[{ accessFlags := 4120, nameIndex := 121, descriptorIndex := 122, attributes := #[] }])
  fields := #[{ name := "$assertionsDisabled", type := .boolean, accessFlags := 4120, slot := 0, constantValue := 0 }]
  methods := #[k18m0, k18m1]
  instanceTypes := #[]
  staticTypes := #[.boolean]
  resolved := Array.replicate 395 none
  statics := none }

def pool19 : Array CpInfo := pool [(2, .class_ 4), (1, u "java/lang/Object"), (0, u "<init>"), (0, u "()V"), (17, .class_ 26), (1, u "jdk/internal/util/Preconditions"), (6, u "checkIndex"), (21, .class_ 56), (0, u "jdk/internal/util/Preconditions$4"), (57, .class_ 115), (0, u "jdk/internal/util/Preconditions$1"), (7, u "SIOOBE_FORMATTER"), (0, u "Ljava/util/function/BiFunction;"), (0, .class_ 126), (0, u "jdk/internal/util/Preconditions$2"), (3, u "AIOOBE_FORMATTER"), (0, .class_ 132), (0, u "jdk/internal/util/Preconditions$3"), (3, u "IOOBE_FORMATTER"), (41, u "(IILjava/util/function/BiFunction;)I")] 15

def k19m0 : Method := { name := "<init>", desc := "()V", sig := { parameters := [], returnType := none }, accessFlags := 1, code := none }
def k19c1 : Code := { maxStack := 3, maxLocals := 3, code := jdk_41_method_11_code, exceptionTable := #[], attributes := #[] }
def k19m1 : Method := { name := "checkIndex", desc := "(IILjava/util/function/BiFunction;)I", sig := { parameters := [.int, .int, (.object "java/util/function/BiFunction")], returnType := some .int }, accessFlags := 9, code := some k19c1 }
/-- jdk/internal/util/Preconditions -/
def k19 : Class := { plain "jdk/internal/util/Preconditions" (some 0) with
  accessFlags := 33
  interfaces := #[]
  cf := some (fileOf pool19 24 #[.nestMembers #[55, 131, 125, 114]] #[{ accessFlags := 1, nameIndex := 5, descriptorIndex := 6, attributes := #[] }, { accessFlags := 9, nameIndex := 33, descriptorIndex := 178, attributes := #[] }] 33 2 #[] #[{ accessFlags := 25, nameIndex := 123, descriptorIndex := 124, attributes := #[] }, { accessFlags := 25, nameIndex := 130, descriptorIndex := 124, attributes := #[] }, { accessFlags := 25, nameIndex := 136, descriptorIndex := 124, attributes := #[] }])
  fields := #[{ name := "SIOOBE_FORMATTER", type := (.object "java/util/function/BiFunction"), accessFlags := 25, slot := 0, constantValue := 0 }, { name := "AIOOBE_FORMATTER", type := (.object "java/util/function/BiFunction"), accessFlags := 25, slot := 1, constantValue := 0 }, { name := "IOOBE_FORMATTER", type := (.object "java/util/function/BiFunction"), accessFlags := 25, slot := 2, constantValue := 0 }]
  methods := #[k19m0, k19m1]
  instanceTypes := #[]
  staticTypes := #[(.object "java/util/function/BiFunction"), (.object "java/util/function/BiFunction"), (.object "java/util/function/BiFunction")]
  resolved := Array.replicate 194 none
  statics := some 2 }

def pool20 : Array CpInfo := pool [(9, u "<init>"), (6, .class_ 18), (1, u "java/lang/Object"), (0, u "()V"), (1, .class_ 23), (1, u "jdk/internal/util/ArraysSupport"), (0, u "LOG2_ARRAY_LONG_INDEX_SCALE"), (0, u "I"), (2, u "U"), (0, u "Ljdk/internal/misc/Unsafe;"), (8, u "BIG_ENDIAN"), (0, u "Z"), (8, u "LOG2_BYTE_BIT_SIZE"), (4, u "LOG2_ARRAY_INT_INDEX_SCALE"), (54, u "JLA"), (0, u "Ljdk/internal/access/JavaLangAccess;"), (11, u "LOG2_ARRAY_BOOLEAN_INDEX_SCALE"), (9, u "LOG2_ARRAY_BYTE_INDEX_SCALE"), (5, u "LOG2_ARRAY_CHAR_INDEX_SCALE"), (5, u "LOG2_ARRAY_SHORT_INDEX_SCALE"), (18, u "LOG2_ARRAY_FLOAT_INDEX_SCALE"), (24, u "LOG2_ARRAY_DOUBLE_INDEX_SCALE"), (6, .methodref 195 196), (0, .class_ 197), (0, .nameAndType 198 199), (0, u "java/lang/Math"), (0, u "max"), (0, u "(II)I"), (0, .integer 2147483639), (76, u "T_BOOLEAN"), (2, u "T_CHAR"), (1, u "T_FLOAT"), (1, u "T_DOUBLE"), (1, u "T_BYTE"), (1, u "T_SHORT"), (1, u "T_INT"), (1, u "T_LONG"), (1, u "SOFT_MAX_ARRAY_LENGTH"), (56, u "newLength"), (0, u "(III)I")] 25

def k20m0 : Method := { name := "<init>", desc := "()V", sig := { parameters := [], returnType := none }, accessFlags := 2, code := none }
def k20c1 : Code := { maxStack := 3, maxLocals := 4, code := jdk_48_method_27_code, exceptionTable := #[], attributes := #[] }
def k20m1 : Method := { name := "newLength", desc := "(III)I", sig := { parameters := [.int, .int, .int], returnType := some .int }, accessFlags := 9, code := some k20c1 }
/-- jdk/internal/util/ArraysSupport -/
def k20 : Class := { plain "jdk/internal/util/ArraysSupport" (some 0) with
  accessFlags := 33
  interfaces := #[]
  cf := some (fileOf pool20 21 #[] #[{ accessFlags := 2, nameIndex := 9, descriptorIndex := 19, attributes := #[] }, { accessFlags := 9, nameIndex := 351, descriptorIndex := 352, attributes := #[] }] 33 16 #[] #[{ accessFlags := 24, nameIndex := 28, descriptorIndex := 29, attributes := #[] }, { accessFlags := 26, nameIndex := 38, descriptorIndex := 39, attributes := #[] }, { accessFlags := 25, nameIndex := 121, descriptorIndex := 25, attributes := #[] }, { accessFlags := 25, nameIndex := 131, descriptorIndex := 25, attributes := #[] }, { accessFlags := 25, nameIndex := 137, descriptorIndex := 25, attributes := #[] }, { accessFlags := 25, nameIndex := 143, descriptorIndex := 25, attributes := #[] }, { accessFlags := 25, nameIndex := 53, descriptorIndex := 25, attributes := #[] }, { accessFlags := 25, nameIndex := 24, descriptorIndex := 25, attributes := #[] }, { accessFlags := 25, nameIndex := 162, descriptorIndex := 25, attributes := #[] }, { accessFlags := 25, nameIndex := 187, descriptorIndex := 25, attributes := #[] }, { accessFlags := 26, nameIndex := 48, descriptorIndex := 25, attributes := #[] }, { accessFlags := 25, nameIndex := 277, descriptorIndex := 25, attributes := #[] }, { accessFlags := 25, nameIndex := 280, descriptorIndex := 25, attributes := #[] }, { accessFlags := 25, nameIndex := 282, descriptorIndex := 25, attributes := #[] }, { accessFlags := 25, nameIndex := 284, descriptorIndex := 25, attributes := #[] }, { accessFlags := 25, nameIndex := 286, descriptorIndex := 25, attributes := #[] }, { accessFlags := 25, nameIndex := 288, descriptorIndex := 25, attributes := #[] }, { accessFlags := 25, nameIndex := 290, descriptorIndex := 25, attributes := #[] }, { accessFlags := 25, nameIndex := 292, descriptorIndex := 25, attributes := #[] }, { accessFlags := 26, nameIndex := 108, descriptorIndex := 109, attributes := #[] }, { accessFlags := 25, nameIndex := 294, descriptorIndex := 25, attributes := #[] }])
  fields := #[{ name := "U", type := (.object "jdk/internal/misc/Unsafe"), accessFlags := 24, slot := 0, constantValue := 0 }, { name := "BIG_ENDIAN", type := .boolean, accessFlags := 26, slot := 1, constantValue := 0 }, { name := "LOG2_ARRAY_BOOLEAN_INDEX_SCALE", type := .int, accessFlags := 25, slot := 2, constantValue := 0 }, { name := "LOG2_ARRAY_BYTE_INDEX_SCALE", type := .int, accessFlags := 25, slot := 3, constantValue := 0 }, { name := "LOG2_ARRAY_CHAR_INDEX_SCALE", type := .int, accessFlags := 25, slot := 4, constantValue := 0 }, { name := "LOG2_ARRAY_SHORT_INDEX_SCALE", type := .int, accessFlags := 25, slot := 5, constantValue := 0 }, { name := "LOG2_ARRAY_INT_INDEX_SCALE", type := .int, accessFlags := 25, slot := 6, constantValue := 0 }, { name := "LOG2_ARRAY_LONG_INDEX_SCALE", type := .int, accessFlags := 25, slot := 7, constantValue := 0 }, { name := "LOG2_ARRAY_FLOAT_INDEX_SCALE", type := .int, accessFlags := 25, slot := 8, constantValue := 0 }, { name := "LOG2_ARRAY_DOUBLE_INDEX_SCALE", type := .int, accessFlags := 25, slot := 9, constantValue := 0 }, { name := "LOG2_BYTE_BIT_SIZE", type := .int, accessFlags := 26, slot := 10, constantValue := 0 }, { name := "T_BOOLEAN", type := .int, accessFlags := 25, slot := 11, constantValue := 0 }, { name := "T_CHAR", type := .int, accessFlags := 25, slot := 12, constantValue := 0 }, { name := "T_FLOAT", type := .int, accessFlags := 25, slot := 13, constantValue := 0 }, { name := "T_DOUBLE", type := .int, accessFlags := 25, slot := 14, constantValue := 0 }, { name := "T_BYTE", type := .int, accessFlags := 25, slot := 15, constantValue := 0 }, { name := "T_SHORT", type := .int, accessFlags := 25, slot := 16, constantValue := 0 }, { name := "T_INT", type := .int, accessFlags := 25, slot := 17, constantValue := 0 }, { name := "T_LONG", type := .int, accessFlags := 25, slot := 18, constantValue := 0 }, { name := "JLA", type := (.object "jdk/internal/access/JavaLangAccess"), accessFlags := 26, slot := 19, constantValue := 0 }, { name := "SOFT_MAX_ARRAY_LENGTH", type := .int, accessFlags := 25, slot := 20, constantValue := 0 }]
  methods := #[k20m0, k20m1]
  instanceTypes := #[]
  staticTypes := #[(.object "jdk/internal/misc/Unsafe"), .boolean, .int, .int, .int, .int, .int, .int, .int, .int, .int, .int, .int, .int, .int, .int, .int, .int, .int, (.object "jdk/internal/access/JavaLangAccess"), .int]
  resolved := Array.replicate 378 none
  statics := none }

def pool21 : Array CpInfo := pool [(1, .class_ 2), (0, u "java/lang/Cloneable"), (0, .class_ 4), (0, u "java/lang/Object")] 2

/-- java/lang/Cloneable -/
def k21 : Class := { plain "java/lang/Cloneable" (some 0) with
  accessFlags := 1537
  interfaces := #[]
  cf := some (fileOf pool21 1 #[] #[] 1537 3 #[] #[])
  fields := #[]
  methods := #[]
  instanceTypes := #[]
  staticTypes := #[]
  resolved := Array.replicate 7 none
  statics := none }

/-- the primitive byte -/
def k22 : Class := { plain "byte" none with kind := .primitive 'B', accessFlags := 0x411 }
/-- [B -/
def k23 : Class := { plain "[B" (some 0) with kind := .array 22 .byte, interfaces := #[21, 2], accessFlags := 1041 }

/-- the primitive char -/
def k24 : Class := { plain "char" none with kind := .primitive 'C', accessFlags := 0x411 }
/-- [C -/
def k25 : Class := { plain "[C" (some 0) with kind := .array 24 .char, interfaces := #[21, 2], accessFlags := 1041 }

/-- the primitive int -/
def k26 : Class := { plain "int" none with kind := .primitive 'I', accessFlags := 0x411 }
/-- [I -/
def k27 : Class := { plain "[I" (some 0) with kind := .array 26 .int, interfaces := #[21, 2], accessFlags := 1041 }

def heap : Heap := #[{ cls := 7, slots := #[.long 0, .int 1, .null, .int 0, .null, .int 0, .int 0], vm := .statics 7 },
  { cls := 15, slots := #[.int 0, .int 0, .null, .null, .ref 4, .ref 3, .int 0, .int 0, .long 0], vm := .statics 15 },
  { cls := 19, slots := #[.null, .null, .null], vm := .statics 19 },
  { cls := 23, slots := #[.int 48, .int 49, .int 50, .int 51, .int 52, .int 53, .int 54, .int 55, .int 56, .int 57, .int 48, .int 49, .int 50, .int 51, .int 52, .int 53, .int 54, .int 55, .int 56, .int 57, .int 48, .int 49, .int 50, .int 51, .int 52, .int 53, .int 54, .int 55, .int 56, .int 57, .int 48, .int 49, .int 50, .int 51, .int 52, .int 53, .int 54, .int 55, .int 56, .int 57, .int 48, .int 49, .int 50, .int 51, .int 52, .int 53, .int 54, .int 55, .int 56, .int 57, .int 48, .int 49, .int 50, .int 51, .int 52, .int 53, .int 54, .int 55, .int 56, .int 57, .int 48, .int 49, .int 50, .int 51, .int 52, .int 53, .int 54, .int 55, .int 56, .int 57, .int 48, .int 49, .int 50, .int 51, .int 52, .int 53, .int 54, .int 55, .int 56, .int 57, .int 48, .int 49, .int 50, .int 51, .int 52, .int 53, .int 54, .int 55, .int 56, .int 57, .int 48, .int 49, .int 50, .int 51, .int 52, .int 53, .int 54, .int 55, .int 56, .int 57], vm := .none },
  { cls := 23, slots := #[.int 48, .int 48, .int 48, .int 48, .int 48, .int 48, .int 48, .int 48, .int 48, .int 48, .int 49, .int 49, .int 49, .int 49, .int 49, .int 49, .int 49, .int 49, .int 49, .int 49, .int 50, .int 50, .int 50, .int 50, .int 50, .int 50, .int 50, .int 50, .int 50, .int 50, .int 51, .int 51, .int 51, .int 51, .int 51, .int 51, .int 51, .int 51, .int 51, .int 51, .int 52, .int 52, .int 52, .int 52, .int 52, .int 52, .int 52, .int 52, .int 52, .int 52, .int 53, .int 53, .int 53, .int 53, .int 53, .int 53, .int 53, .int 53, .int 53, .int 53, .int 54, .int 54, .int 54, .int 54, .int 54, .int 54, .int 54, .int 54, .int 54, .int 54, .int 55, .int 55, .int 55, .int 55, .int 55, .int 55, .int 55, .int 55, .int 55, .int 55, .int 56, .int 56, .int 56, .int 56, .int 56, .int 56, .int 56, .int 56, .int 56, .int 56, .int 57, .int 57, .int 57, .int 57, .int 57, .int 57, .int 57, .int 57, .int 57, .int 57], vm := .none }]
def classes : Array Class := #[k0, k1, k2, k3, k4, k5, k6, k7, k8, k9, k10, k11, k12, k13, k14, k15, k16, k17, k18, k19, k20, k21, k22, k23, k24, k25, k26, k27]
def interned : List (Array UInt16 × Addr) := []
def slotsUsed : Nat := 219
def theMethod : MethodId := ⟨1, 1⟩
def args0 : Array Value := #[.long 5, .long 7, .int 3, .int 5]
def aboutOver (below : List Frame) : State where
  vm := { classes := classes, interned := interned.toArray }
  heap := heap
  slotsUsed := slotsUsed
  threads := #[{ frames := .invoking theMethod args0 :: below }]
def below0 : List Frame := [.native { method := ⟨0, 0⟩, args := #[] }]
def about1 : State := aboutOver below0
def p0 : Program := .bare "" "" ""
def e0 : Env := launch0.env 0 0 0
theorem w_frames : about1.frames = Frame.invoking theMethod args0 :: below0 := rfl
set_option maxRecDepth 65536 in
theorem w_args : argsFit about1.vm theMethod args0 = true := by decide +kernel
set_option maxRecDepth 65536 in
theorem w_heap : heapFits about1 = true := by decide +kernel
set_option maxRecDepth 65536 in
theorem w_runnable : about1.curStatus? = some .runnable := by decide +kernel
set_option maxRecDepth 65536 in
theorem w_alone : about1.alone = true := by decide +kernel
set_option maxRecDepth 65536 in
theorem w_named : about1.methodNamed? x = some theMethod := by decide +kernel
set_option maxRecDepth 65536 in
theorem w_hears : about1.hears theMethod below0 = true := by decide +kernel
set_option maxRecDepth 65536 in
theorem w_ripe : about1.ripe theMethod args0 below0 = true := by decide +kernel
theorem w_running : about1.status = .running := rfl
set_option maxRecDepth 65536 in
theorem w_room : about1.hasRoom e0.platform room_1 = true :=
  launch0.hasRoom_least _ room_1 (by decide +kernel) (by decide +kernel) (by decide +kernel) (by decide +kernel) (by decide +kernel) (by decide +kernel)
theorem allAtoms_all (ts : List Jvm.Cond) (a : Array Jvm.Value) (st : Jvm.State) : (allAtoms ts).before a st = ts.all (fun c => c.before a st) := by
  induction ts with
  | nil => rfl
  | cons c t ih =>
    show (Jvm.Cond.and c (allAtoms t)).before a st = _
    rw [Jvm.Cond.before_and, ih, List.all_cons]
def words1 : List Jvm.Cond := Jvm.Cond.code x code maxLocals ret :: tables_1
/-- a 'code' word, met by the world's own term for the bytes: nothing is compared byte by byte -/
theorem code_word {y : MethodName} {bytes : ByteArray} {mx : Nat} {rt : Option FieldType} {a : Array Value} {s : State} {m : MethodId} {meth : Method} {c : Code} (h1 : s.methodNamed? y = some m) (h2 : s.vm.method? m = some meth) (h3 : meth.code = some c) (h4 : c.code = bytes)
    (h5 : (c.maxLocals == mx && c.exceptionTable.isEmpty && decide (c.maxStack ≤ mostOperands) && decide (meth.sig.returnType = rt) && !meth.locks && decide (parseMethodDescriptor y.desc = some meth.sig)) = true) : (Jvm.Cond.code y bytes mx rt).before a s = true := by
  simp only [Bool.and_eq_true, beq_iff_eq, Bool.not_eq_true', decide_eq_true_eq] at h5
  obtain ⟨⟨⟨⟨⟨g1, g2⟩, g3⟩, g4⟩, g5⟩, g6⟩ := h5
  simp [Cond.before, Cond.holds, Cond.value, h1, h2, h3, h4, g1, g2, g3, g4, g5, g6]
def isCode : Jvm.Cond → Bool
  | .code _ _ _ _ => true
  | _ => false
theorem all_split {L : List Jvm.Cond} {P : Jvm.Cond → Bool} (h1 : L.all (fun c => isCode c || P c) = true) (h2 : ∀ c ∈ L.filter isCode, P c = true) : L.all P = true := by
  refine List.all_eq_true.mpr fun c hc => ?_
  have h := List.all_eq_true.mp h1 c hc
  rcases Bool.eq_false_or_eq_true (isCode c) with hi | hi
  · exact h2 c (List.mem_filter.mpr ⟨hc, hi⟩)
  · simpa [hi] using h
set_option maxRecDepth 65536 in
theorem w_c0 : (Jvm.Cond.code x code maxLocals ret).before args0 about1 = true := code_word (m := ⟨1, 1⟩) (meth := k1m1) (c := k1c1) (by decide +kernel) rfl rfl rfl (by decide +kernel)
set_option maxRecDepth 65536 in
theorem w_c1 : (Jvm.Cond.code ({ cls := "com/example/ranker/ranker/RunFileLinePinLaw", name := "mk", desc := "(JI)Ljava/lang/String;" } : Jvm.MethodName) method_3_code (6 : Nat) (Option.some (Jvm.ClassFile.FieldType.object "java/lang/String"))).before args0 about1 = true := code_word (m := ⟨1, 2⟩) (meth := k1m2) (c := k1c2) (by decide +kernel) rfl rfl rfl (by decide +kernel)
set_option maxRecDepth 65536 in
theorem w_c2 : (Jvm.Cond.code ({ cls := "java/lang/String", name := "<init>", desc := "([C)V" } : Jvm.MethodName) jdk_42_method_3_code (2 : Nat) (Option.none : Option Jvm.ClassFile.FieldType)).before args0 about1 = true := code_word (m := ⟨7, 1⟩) (meth := k7m1) (c := k7c1) (by decide +kernel) rfl rfl rfl (by decide +kernel)
set_option maxRecDepth 65536 in
theorem w_c3 : (Jvm.Cond.code ({ cls := "java/lang/String", name := "<init>", desc := "([CIILjava/lang/Void;)V" } : Jvm.MethodName) jdk_42_method_149_code (6 : Nat) (Option.none : Option Jvm.ClassFile.FieldType)).before args0 about1 = true := code_word (m := ⟨7, 6⟩) (meth := k7m6) (c := k7c6) (by decide +kernel) rfl rfl rfl (by decide +kernel)
set_option maxRecDepth 65536 in
theorem w_c4 : (Jvm.Cond.code ({ cls := "java/lang/Object", name := "<init>", desc := "()V" } : Jvm.MethodName) object_method_1_code (1 : Nat) (Option.none : Option Jvm.ClassFile.FieldType)).before args0 about1 = true := code_word (m := ⟨0, 0⟩) (meth := k0m0) (c := k0c0) (by decide +kernel) rfl rfl rfl (by decide +kernel)
set_option maxRecDepth 65536 in
theorem w_c5 : (Jvm.Cond.code ({ cls := "java/lang/StringUTF16", name := "compress", desc := "([CII)[B" } : Jvm.MethodName) jdk_52_method_16_code (6 : Nat) (Option.some (Jvm.ClassFile.FieldType.array Jvm.ClassFile.FieldType.byte))).before args0 about1 = true := code_word (m := ⟨8, 2⟩) (meth := k8m2) (c := k8c2) (by decide +kernel) rfl rfl rfl (by decide +kernel)
set_option maxRecDepth 65536 in
theorem w_c6 : (Jvm.Cond.code ({ cls := "java/lang/StringUTF16", name := "compress", desc := "([CI[BII)I" } : Jvm.MethodName) jdk_52_method_21_code (7 : Nat) (Option.some Jvm.ClassFile.FieldType.int)).before args0 about1 = true := code_word (m := ⟨8, 3⟩) (meth := k8m3) (c := k8c3) (by decide +kernel) rfl rfl rfl (by decide +kernel)
set_option maxRecDepth 65536 in
theorem w_c7 : (Jvm.Cond.code ({ cls := "java/lang/StringUTF16", name := "coderFromArrayLen", desc := "([BI)B" } : Jvm.MethodName) jdk_52_method_15_code (2 : Nat) (Option.some Jvm.ClassFile.FieldType.byte)).before args0 about1 = true := code_word (m := ⟨8, 1⟩) (meth := k8m1) (c := k8c1) (by decide +kernel) rfl rfl rfl (by decide +kernel)
set_option maxRecDepth 65536 in
theorem w_c8 : (Jvm.Cond.code ({ cls := "com/example/ranker/ranker/RunFile", name := "line", desc := "(Ljava/lang/String;Ljava/lang/String;ILjava/lang/String;Ljava/lang/String;)Ljava/lang/String;" } : Jvm.MethodName) prog_24_method_5_code (5 : Nat) (Option.some (Jvm.ClassFile.FieldType.object "java/lang/String"))).before args0 about1 = true := code_word (m := ⟨9, 1⟩) (meth := k9m1) (c := k9c1) (by decide +kernel) rfl rfl rfl (by decide +kernel)
set_option maxRecDepth 65536 in
theorem w_c9 : (Jvm.Cond.code ({ cls := "java/lang/StringBuilder", name := "<init>", desc := "()V" } : Jvm.MethodName) jdk_67_method_1_code (1 : Nat) (Option.none : Option Jvm.ClassFile.FieldType)).before args0 about1 = true := code_word (m := ⟨12, 0⟩) (meth := k12m0) (c := k12c0) (by decide +kernel) rfl rfl rfl (by decide +kernel)
set_option maxRecDepth 65536 in
theorem w_c10 : (Jvm.Cond.code ({ cls := "java/lang/AbstractStringBuilder", name := "<init>", desc := "(I)V" } : Jvm.MethodName) jdk_68_method_2_code (2 : Nat) (Option.none : Option Jvm.ClassFile.FieldType)).before args0 about1 = true := code_word (m := ⟨11, 1⟩) (meth := k11m1) (c := k11c1) (by decide +kernel) rfl rfl rfl (by decide +kernel)
set_option maxRecDepth 65536 in
theorem w_c11 : (Jvm.Cond.code ({ cls := "java/lang/StringBuilder", name := "append", desc := "(Ljava/lang/String;)Ljava/lang/StringBuilder;" } : Jvm.MethodName) jdk_67_method_7_code (2 : Nat) (Option.some (Jvm.ClassFile.FieldType.object "java/lang/StringBuilder"))).before args0 about1 = true := code_word (m := ⟨12, 1⟩) (meth := k12m1) (c := k12c1) (by decide +kernel) rfl rfl rfl (by decide +kernel)
set_option maxRecDepth 65536 in
theorem w_c12 : (Jvm.Cond.code ({ cls := "java/lang/AbstractStringBuilder", name := "append", desc := "(Ljava/lang/String;)Ljava/lang/AbstractStringBuilder;" } : Jvm.MethodName) jdk_68_method_22_code (3 : Nat) (Option.some (Jvm.ClassFile.FieldType.object "java/lang/AbstractStringBuilder"))).before args0 about1 = true := code_word (m := ⟨11, 5⟩) (meth := k11m5) (c := k11c5) (by decide +kernel) rfl rfl rfl (by decide +kernel)
set_option maxRecDepth 65536 in
theorem w_c13 : (Jvm.Cond.code ({ cls := "java/lang/String", name := "length", desc := "()I" } : Jvm.MethodName) jdk_42_method_54_code (1 : Nat) (Option.some Jvm.ClassFile.FieldType.int)).before args0 about1 = true := code_word (m := ⟨7, 3⟩) (meth := k7m3) (c := k7c3) (by decide +kernel) rfl rfl rfl (by decide +kernel)
set_option maxRecDepth 65536 in
theorem w_c14 : (Jvm.Cond.code ({ cls := "java/lang/String", name := "coder", desc := "()B" } : Jvm.MethodName) jdk_42_method_152_code (1 : Nat) (Option.some Jvm.ClassFile.FieldType.byte)).before args0 about1 = true := code_word (m := ⟨7, 8⟩) (meth := k7m8) (c := k7c8) (by decide +kernel) rfl rfl rfl (by decide +kernel)
set_option maxRecDepth 65536 in
theorem w_c15 : (Jvm.Cond.code ({ cls := "java/lang/AbstractStringBuilder", name := "ensureCapacityInternal", desc := "(I)V" } : Jvm.MethodName) jdk_68_method_9_code (3 : Nat) (Option.none : Option Jvm.ClassFile.FieldType)).before args0 about1 = true := code_word (m := ⟨11, 3⟩) (meth := k11m3) (c := k11c3) (by decide +kernel) rfl rfl rfl (by decide +kernel)
set_option maxRecDepth 65536 in
theorem w_c16 : (Jvm.Cond.code ({ cls := "java/lang/AbstractStringBuilder", name := "putStringAt", desc := "(ILjava/lang/String;)V" } : Jvm.MethodName) jdk_68_method_73_code (3 : Nat) (Option.none : Option Jvm.ClassFile.FieldType)).before args0 about1 = true := code_word (m := ⟨11, 10⟩) (meth := k11m10) (c := k11c10) (by decide +kernel) rfl rfl rfl (by decide +kernel)
set_option maxRecDepth 65536 in
theorem w_c17 : (Jvm.Cond.code ({ cls := "java/lang/AbstractStringBuilder", name := "inflateIfNeededFor", desc := "(Ljava/lang/String;)V" } : Jvm.MethodName) jdk_68_method_71_code (2 : Nat) (Option.none : Option Jvm.ClassFile.FieldType)).before args0 about1 = true := code_word (m := ⟨11, 9⟩) (meth := k11m9) (c := k11c9) (by decide +kernel) rfl rfl rfl (by decide +kernel)
set_option maxRecDepth 65536 in
theorem w_c18 : (Jvm.Cond.code ({ cls := "java/lang/String", name := "getBytes", desc := "([BIB)V" } : Jvm.MethodName) jdk_42_method_147_code (4 : Nat) (Option.none : Option Jvm.ClassFile.FieldType)).before args0 about1 = true := code_word (m := ⟨7, 5⟩) (meth := k7m5) (c := k7c5) (by decide +kernel) rfl rfl rfl (by decide +kernel)
set_option maxRecDepth 65536 in
theorem w_c19 : (Jvm.Cond.code ({ cls := "java/lang/StringBuilder", name := "append", desc := "(I)Ljava/lang/StringBuilder;" } : Jvm.MethodName) jdk_67_method_15_code (2 : Nat) (Option.some (Jvm.ClassFile.FieldType.object "java/lang/StringBuilder"))).before args0 about1 = true := code_word (m := ⟨12, 2⟩) (meth := k12m2) (c := k12c2) (by decide +kernel) rfl rfl rfl (by decide +kernel)
set_option maxRecDepth 65536 in
theorem w_c20 : (Jvm.Cond.code ({ cls := "java/lang/AbstractStringBuilder", name := "append", desc := "(I)Ljava/lang/AbstractStringBuilder;" } : Jvm.MethodName) jdk_68_method_32_code (4 : Nat) (Option.some (Jvm.ClassFile.FieldType.object "java/lang/AbstractStringBuilder"))).before args0 about1 = true := code_word (m := ⟨11, 6⟩) (meth := k11m6) (c := k11c6) (by decide +kernel) rfl rfl rfl (by decide +kernel)
set_option maxRecDepth 65536 in
theorem w_c21 : (Jvm.Cond.code ({ cls := "java/lang/Integer", name := "stringSize", desc := "(I)I" } : Jvm.MethodName) jdk_33_method_13_code (4 : Nat) (Option.some Jvm.ClassFile.FieldType.int)).before args0 about1 = true := code_word (m := ⟨15, 1⟩) (meth := k15m1) (c := k15c1) (by decide +kernel) rfl rfl rfl (by decide +kernel)
set_option maxRecDepth 65536 in
theorem w_c22 : (Jvm.Cond.code ({ cls := "java/lang/AbstractStringBuilder", name := "isLatin1", desc := "()Z" } : Jvm.MethodName) jdk_68_method_68_code (1 : Nat) (Option.some Jvm.ClassFile.FieldType.boolean)).before args0 about1 = true := code_word (m := ⟨11, 8⟩) (meth := k11m8) (c := k11c8) (by decide +kernel) rfl rfl rfl (by decide +kernel)
set_option maxRecDepth 65536 in
theorem w_c23 : (Jvm.Cond.code ({ cls := "java/lang/Integer", name := "getChars", desc := "(II[B)I" } : Jvm.MethodName) jdk_33_method_12_code (7 : Nat) (Option.some Jvm.ClassFile.FieldType.int)).before args0 about1 = true := code_word (m := ⟨15, 0⟩) (meth := k15m0) (c := k15c0) (by decide +kernel) rfl rfl rfl (by decide +kernel)
set_option maxRecDepth 65536 in
theorem w_c24 : (Jvm.Cond.code ({ cls := "java/lang/StringBuilder", name := "toString", desc := "()Ljava/lang/String;" } : Jvm.MethodName) jdk_67_method_42_code (1 : Nat) (Option.some (Jvm.ClassFile.FieldType.object "java/lang/String"))).before args0 about1 = true := code_word (m := ⟨12, 3⟩) (meth := k12m3) (c := k12c3) (by decide +kernel) rfl rfl rfl (by decide +kernel)
set_option maxRecDepth 65536 in
theorem w_c25 : (Jvm.Cond.code ({ cls := "java/lang/String", name := "<init>", desc := "(Ljava/lang/StringBuilder;)V" } : Jvm.MethodName) jdk_42_method_53_code (2 : Nat) (Option.none : Option Jvm.ClassFile.FieldType)).before args0 about1 = true := code_word (m := ⟨7, 2⟩) (meth := k7m2) (c := k7c2) (by decide +kernel) rfl rfl rfl (by decide +kernel)
set_option maxRecDepth 65536 in
theorem w_c26 : (Jvm.Cond.code ({ cls := "java/lang/String", name := "<init>", desc := "(Ljava/lang/AbstractStringBuilder;Ljava/lang/Void;)V" } : Jvm.MethodName) jdk_42_method_150_code (5 : Nat) (Option.none : Option Jvm.ClassFile.FieldType)).before args0 about1 = true := code_word (m := ⟨7, 7⟩) (meth := k7m7) (c := k7c7) (by decide +kernel) rfl rfl rfl (by decide +kernel)
set_option maxRecDepth 65536 in
theorem w_c27 : (Jvm.Cond.code ({ cls := "java/lang/AbstractStringBuilder", name := "getValue", desc := "()[B" } : Jvm.MethodName) jdk_68_method_64_code (1 : Nat) (Option.some (Jvm.ClassFile.FieldType.array Jvm.ClassFile.FieldType.byte))).before args0 about1 = true := code_word (m := ⟨11, 7⟩) (meth := k11m7) (c := k11c7) (by decide +kernel) rfl rfl rfl (by decide +kernel)
set_option maxRecDepth 65536 in
theorem w_c28 : (Jvm.Cond.code ({ cls := "java/lang/StringBuilder", name := "length", desc := "()I" } : Jvm.MethodName) jdk_67_method_93_code (1 : Nat) (Option.some Jvm.ClassFile.FieldType.int)).before args0 about1 = true := code_word (m := ⟨12, 4⟩) (meth := k12m4) (c := k12c4) (by decide +kernel) rfl rfl rfl (by decide +kernel)
set_option maxRecDepth 65536 in
theorem w_c29 : (Jvm.Cond.code ({ cls := "java/lang/AbstractStringBuilder", name := "length", desc := "()I" } : Jvm.MethodName) jdk_68_method_6_code (1 : Nat) (Option.some Jvm.ClassFile.FieldType.int)).before args0 about1 = true := code_word (m := ⟨11, 2⟩) (meth := k11m2) (c := k11c2) (by decide +kernel) rfl rfl rfl (by decide +kernel)
set_option maxRecDepth 65536 in
theorem w_c30 : (Jvm.Cond.code ({ cls := "java/util/Arrays", name := "copyOfRange", desc := "([BII)[B" } : Jvm.MethodName) jdk_65_method_132_code (3 : Nat) (Option.some (Jvm.ClassFile.FieldType.array Jvm.ClassFile.FieldType.byte))).before args0 about1 = true := code_word (m := ⟨16, 3⟩) (meth := k16m3) (c := k16c3) (by decide +kernel) rfl rfl rfl (by decide +kernel)
set_option maxRecDepth 65536 in
theorem w_c31 : (Jvm.Cond.code ({ cls := "java/util/Arrays", name := "copyOfRangeByte", desc := "([BII)[B" } : Jvm.MethodName) jdk_65_method_133_code (5 : Nat) (Option.some (Jvm.ClassFile.FieldType.array Jvm.ClassFile.FieldType.byte))).before args0 about1 = true := code_word (m := ⟨16, 4⟩) (meth := k16m4) (c := k16c4) (by decide +kernel) rfl rfl rfl (by decide +kernel)
set_option maxRecDepth 65536 in
theorem w_c32 : (Jvm.Cond.code ({ cls := "java/util/Arrays", name := "checkLength", desc := "(II)V" } : Jvm.MethodName) jdk_65_method_131_code (2 : Nat) (Option.none : Option Jvm.ClassFile.FieldType)).before args0 about1 = true := code_word (m := ⟨16, 2⟩) (meth := k16m2) (c := k16c2) (by decide +kernel) rfl rfl rfl (by decide +kernel)
set_option maxRecDepth 65536 in
theorem w_c33 : (Jvm.Cond.code ({ cls := "java/lang/Math", name := "min", desc := "(II)I" } : Jvm.MethodName) jdk_29_method_69_code (2 : Nat) (Option.some Jvm.ClassFile.FieldType.int)).before args0 about1 = true := code_word (m := ⟨17, 3⟩) (meth := k17m3) (c := k17c3) (by decide +kernel) rfl rfl rfl (by decide +kernel)
set_option maxRecDepth 65536 in
theorem w_c34 : (Jvm.Cond.code ({ cls := "java/lang/Math", name := "abs", desc := "(J)J" } : Jvm.MethodName) jdk_29_method_61_code (2 : Nat) (Option.some Jvm.ClassFile.FieldType.long)).before args0 about1 = true := code_word (m := ⟨17, 1⟩) (meth := k17m1) (c := k17c1) (by decide +kernel) rfl rfl rfl (by decide +kernel)
set_option maxRecDepth 65536 in
theorem w_c35 : (Jvm.Cond.code ({ cls := "com/example/ranker/ranker/RunFileLinePinLaw", name := "digits", desc := "(J)I" } : Jvm.MethodName) method_4_code (3 : Nat) (Option.some Jvm.ClassFile.FieldType.int)).before args0 about1 = true := code_word (m := ⟨1, 3⟩) (meth := k1m3) (c := k1c3) (by decide +kernel) rfl rfl rfl (by decide +kernel)
set_option maxRecDepth 65536 in
theorem w_c36 : (Jvm.Cond.code ({ cls := "com/example/ranker/ranker/RunFileLinePinLaw", name := "same", desc := "(Ljava/lang/String;ILjava/lang/String;)Z" } : Jvm.MethodName) method_6_code (3 : Nat) (Option.some Jvm.ClassFile.FieldType.boolean)).before args0 about1 = true := code_word (m := ⟨1, 5⟩) (meth := k1m5) (c := k1c5) (by decide +kernel) rfl rfl rfl (by decide +kernel)
set_option maxRecDepth 65536 in
theorem w_c37 : (Jvm.Cond.code ({ cls := "java/lang/String", name := "charAt", desc := "(I)C" } : Jvm.MethodName) jdk_42_method_56_code (2 : Nat) (Option.some Jvm.ClassFile.FieldType.char)).before args0 about1 = true := code_word (m := ⟨7, 4⟩) (meth := k7m4) (c := k7c4) (by decide +kernel) rfl rfl rfl (by decide +kernel)
set_option maxRecDepth 65536 in
theorem w_c38 : (Jvm.Cond.code ({ cls := "java/lang/String", name := "isLatin1", desc := "()Z" } : Jvm.MethodName) jdk_42_method_154_code (1 : Nat) (Option.some Jvm.ClassFile.FieldType.boolean)).before args0 about1 = true := code_word (m := ⟨7, 9⟩) (meth := k7m9) (c := k7c9) (by decide +kernel) rfl rfl rfl (by decide +kernel)
set_option maxRecDepth 65536 in
theorem w_c39 : (Jvm.Cond.code ({ cls := "java/lang/StringLatin1", name := "charAt", desc := "([BI)C" } : Jvm.MethodName) jdk_43_method_2_code (2 : Nat) (Option.some Jvm.ClassFile.FieldType.char)).before args0 about1 = true := code_word (m := ⟨18, 1⟩) (meth := k18m1) (c := k18c1) (by decide +kernel) rfl rfl rfl (by decide +kernel)
set_option maxRecDepth 65536 in
theorem w_c40 : (Jvm.Cond.code ({ cls := "java/lang/String", name := "checkIndex", desc := "(II)V" } : Jvm.MethodName) jdk_42_method_155_code (2 : Nat) (Option.none : Option Jvm.ClassFile.FieldType)).before args0 about1 = true := code_word (m := ⟨7, 10⟩) (meth := k7m10) (c := k7c10) (by decide +kernel) rfl rfl rfl (by decide +kernel)
set_option maxRecDepth 65536 in
theorem w_c41 : (Jvm.Cond.code ({ cls := "jdk/internal/util/Preconditions", name := "checkIndex", desc := "(IILjava/util/function/BiFunction;)I" } : Jvm.MethodName) jdk_41_method_11_code (3 : Nat) (Option.some Jvm.ClassFile.FieldType.int)).before args0 about1 = true := code_word (m := ⟨19, 1⟩) (meth := k19m1) (c := k19c1) (by decide +kernel) rfl rfl rfl (by decide +kernel)
set_option maxRecDepth 65536 in
theorem w_c42 : (Jvm.Cond.code ({ cls := "com/example/ranker/ranker/RunFileLinePinLaw", name := "dig", desc := "(Ljava/lang/String;IJJ)Z" } : Jvm.MethodName) method_5_code (6 : Nat) (Option.some Jvm.ClassFile.FieldType.boolean)).before args0 about1 = true := code_word (m := ⟨1, 4⟩) (meth := k1m4) (c := k1c4) (by decide +kernel) rfl rfl rfl (by decide +kernel)
set_option maxRecDepth 65536 in
theorem w_c43 : (Jvm.Cond.code ({ cls := "java/lang/AbstractStringBuilder", name := "newCapacity", desc := "(I)I" } : Jvm.MethodName) jdk_68_method_10_code (6 : Nat) (Option.some Jvm.ClassFile.FieldType.int)).before args0 about1 = true := code_word (m := ⟨11, 4⟩) (meth := k11m4) (c := k11c4) (by decide +kernel) rfl rfl rfl (by decide +kernel)
set_option maxRecDepth 65536 in
theorem w_c44 : (Jvm.Cond.code ({ cls := "jdk/internal/util/ArraysSupport", name := "newLength", desc := "(III)I" } : Jvm.MethodName) jdk_48_method_27_code (4 : Nat) (Option.some Jvm.ClassFile.FieldType.int)).before args0 about1 = true := code_word (m := ⟨20, 1⟩) (meth := k20m1) (c := k20c1) (by decide +kernel) rfl rfl rfl (by decide +kernel)
set_option maxRecDepth 65536 in
theorem w_c45 : (Jvm.Cond.code ({ cls := "java/lang/Math", name := "max", desc := "(II)I" } : Jvm.MethodName) jdk_29_method_65_code (2 : Nat) (Option.some Jvm.ClassFile.FieldType.int)).before args0 about1 = true := code_word (m := ⟨17, 2⟩) (meth := k17m2) (c := k17c2) (by decide +kernel) rfl rfl rfl (by decide +kernel)
set_option maxRecDepth 65536 in
theorem w_c46 : (Jvm.Cond.code ({ cls := "java/util/Arrays", name := "copyOf", desc := "([BI)[B" } : Jvm.MethodName) jdk_65_method_121_code (3 : Nat) (Option.some (Jvm.ClassFile.FieldType.array Jvm.ClassFile.FieldType.byte))).before args0 about1 = true := code_word (m := ⟨16, 1⟩) (meth := k16m1) (c := k16c1) (by decide +kernel) rfl rfl rfl (by decide +kernel)
def codes1 : List Jvm.Cond := [Jvm.Cond.code x code maxLocals ret, Jvm.Cond.code ({ cls := "com/example/ranker/ranker/RunFileLinePinLaw", name := "mk", desc := "(JI)Ljava/lang/String;" } : Jvm.MethodName) method_3_code (6 : Nat) (Option.some (Jvm.ClassFile.FieldType.object "java/lang/String")), Jvm.Cond.code ({ cls := "java/lang/String", name := "<init>", desc := "([C)V" } : Jvm.MethodName) jdk_42_method_3_code (2 : Nat) (Option.none : Option Jvm.ClassFile.FieldType), Jvm.Cond.code ({ cls := "java/lang/String", name := "<init>", desc := "([CIILjava/lang/Void;)V" } : Jvm.MethodName) jdk_42_method_149_code (6 : Nat) (Option.none : Option Jvm.ClassFile.FieldType), Jvm.Cond.code ({ cls := "java/lang/Object", name := "<init>", desc := "()V" } : Jvm.MethodName) object_method_1_code (1 : Nat) (Option.none : Option Jvm.ClassFile.FieldType), Jvm.Cond.code ({ cls := "java/lang/StringUTF16", name := "compress", desc := "([CII)[B" } : Jvm.MethodName) jdk_52_method_16_code (6 : Nat) (Option.some (Jvm.ClassFile.FieldType.array Jvm.ClassFile.FieldType.byte)), Jvm.Cond.code ({ cls := "java/lang/StringUTF16", name := "compress", desc := "([CI[BII)I" } : Jvm.MethodName) jdk_52_method_21_code (7 : Nat) (Option.some Jvm.ClassFile.FieldType.int), Jvm.Cond.code ({ cls := "java/lang/StringUTF16", name := "coderFromArrayLen", desc := "([BI)B" } : Jvm.MethodName) jdk_52_method_15_code (2 : Nat) (Option.some Jvm.ClassFile.FieldType.byte), Jvm.Cond.code ({ cls := "com/example/ranker/ranker/RunFile", name := "line", desc := "(Ljava/lang/String;Ljava/lang/String;ILjava/lang/String;Ljava/lang/String;)Ljava/lang/String;" } : Jvm.MethodName) prog_24_method_5_code (5 : Nat) (Option.some (Jvm.ClassFile.FieldType.object "java/lang/String")), Jvm.Cond.code ({ cls := "java/lang/StringBuilder", name := "<init>", desc := "()V" } : Jvm.MethodName) jdk_67_method_1_code (1 : Nat) (Option.none : Option Jvm.ClassFile.FieldType), Jvm.Cond.code ({ cls := "java/lang/AbstractStringBuilder", name := "<init>", desc := "(I)V" } : Jvm.MethodName) jdk_68_method_2_code (2 : Nat) (Option.none : Option Jvm.ClassFile.FieldType), Jvm.Cond.code ({ cls := "java/lang/StringBuilder", name := "append", desc := "(Ljava/lang/String;)Ljava/lang/StringBuilder;" } : Jvm.MethodName) jdk_67_method_7_code (2 : Nat) (Option.some (Jvm.ClassFile.FieldType.object "java/lang/StringBuilder")), Jvm.Cond.code ({ cls := "java/lang/AbstractStringBuilder", name := "append", desc := "(Ljava/lang/String;)Ljava/lang/AbstractStringBuilder;" } : Jvm.MethodName) jdk_68_method_22_code (3 : Nat) (Option.some (Jvm.ClassFile.FieldType.object "java/lang/AbstractStringBuilder")), Jvm.Cond.code ({ cls := "java/lang/String", name := "length", desc := "()I" } : Jvm.MethodName) jdk_42_method_54_code (1 : Nat) (Option.some Jvm.ClassFile.FieldType.int), Jvm.Cond.code ({ cls := "java/lang/String", name := "coder", desc := "()B" } : Jvm.MethodName) jdk_42_method_152_code (1 : Nat) (Option.some Jvm.ClassFile.FieldType.byte), Jvm.Cond.code ({ cls := "java/lang/AbstractStringBuilder", name := "ensureCapacityInternal", desc := "(I)V" } : Jvm.MethodName) jdk_68_method_9_code (3 : Nat) (Option.none : Option Jvm.ClassFile.FieldType), Jvm.Cond.code ({ cls := "java/lang/AbstractStringBuilder", name := "putStringAt", desc := "(ILjava/lang/String;)V" } : Jvm.MethodName) jdk_68_method_73_code (3 : Nat) (Option.none : Option Jvm.ClassFile.FieldType), Jvm.Cond.code ({ cls := "java/lang/AbstractStringBuilder", name := "inflateIfNeededFor", desc := "(Ljava/lang/String;)V" } : Jvm.MethodName) jdk_68_method_71_code (2 : Nat) (Option.none : Option Jvm.ClassFile.FieldType), Jvm.Cond.code ({ cls := "java/lang/String", name := "getBytes", desc := "([BIB)V" } : Jvm.MethodName) jdk_42_method_147_code (4 : Nat) (Option.none : Option Jvm.ClassFile.FieldType), Jvm.Cond.code ({ cls := "java/lang/StringBuilder", name := "append", desc := "(I)Ljava/lang/StringBuilder;" } : Jvm.MethodName) jdk_67_method_15_code (2 : Nat) (Option.some (Jvm.ClassFile.FieldType.object "java/lang/StringBuilder")), Jvm.Cond.code ({ cls := "java/lang/AbstractStringBuilder", name := "append", desc := "(I)Ljava/lang/AbstractStringBuilder;" } : Jvm.MethodName) jdk_68_method_32_code (4 : Nat) (Option.some (Jvm.ClassFile.FieldType.object "java/lang/AbstractStringBuilder")), Jvm.Cond.code ({ cls := "java/lang/Integer", name := "stringSize", desc := "(I)I" } : Jvm.MethodName) jdk_33_method_13_code (4 : Nat) (Option.some Jvm.ClassFile.FieldType.int), Jvm.Cond.code ({ cls := "java/lang/AbstractStringBuilder", name := "isLatin1", desc := "()Z" } : Jvm.MethodName) jdk_68_method_68_code (1 : Nat) (Option.some Jvm.ClassFile.FieldType.boolean), Jvm.Cond.code ({ cls := "java/lang/Integer", name := "getChars", desc := "(II[B)I" } : Jvm.MethodName) jdk_33_method_12_code (7 : Nat) (Option.some Jvm.ClassFile.FieldType.int), Jvm.Cond.code ({ cls := "java/lang/StringBuilder", name := "toString", desc := "()Ljava/lang/String;" } : Jvm.MethodName) jdk_67_method_42_code (1 : Nat) (Option.some (Jvm.ClassFile.FieldType.object "java/lang/String")), Jvm.Cond.code ({ cls := "java/lang/String", name := "<init>", desc := "(Ljava/lang/StringBuilder;)V" } : Jvm.MethodName) jdk_42_method_53_code (2 : Nat) (Option.none : Option Jvm.ClassFile.FieldType), Jvm.Cond.code ({ cls := "java/lang/String", name := "<init>", desc := "(Ljava/lang/AbstractStringBuilder;Ljava/lang/Void;)V" } : Jvm.MethodName) jdk_42_method_150_code (5 : Nat) (Option.none : Option Jvm.ClassFile.FieldType), Jvm.Cond.code ({ cls := "java/lang/AbstractStringBuilder", name := "getValue", desc := "()[B" } : Jvm.MethodName) jdk_68_method_64_code (1 : Nat) (Option.some (Jvm.ClassFile.FieldType.array Jvm.ClassFile.FieldType.byte)), Jvm.Cond.code ({ cls := "java/lang/StringBuilder", name := "length", desc := "()I" } : Jvm.MethodName) jdk_67_method_93_code (1 : Nat) (Option.some Jvm.ClassFile.FieldType.int), Jvm.Cond.code ({ cls := "java/lang/AbstractStringBuilder", name := "length", desc := "()I" } : Jvm.MethodName) jdk_68_method_6_code (1 : Nat) (Option.some Jvm.ClassFile.FieldType.int), Jvm.Cond.code ({ cls := "java/util/Arrays", name := "copyOfRange", desc := "([BII)[B" } : Jvm.MethodName) jdk_65_method_132_code (3 : Nat) (Option.some (Jvm.ClassFile.FieldType.array Jvm.ClassFile.FieldType.byte)), Jvm.Cond.code ({ cls := "java/util/Arrays", name := "copyOfRangeByte", desc := "([BII)[B" } : Jvm.MethodName) jdk_65_method_133_code (5 : Nat) (Option.some (Jvm.ClassFile.FieldType.array Jvm.ClassFile.FieldType.byte)), Jvm.Cond.code ({ cls := "java/util/Arrays", name := "checkLength", desc := "(II)V" } : Jvm.MethodName) jdk_65_method_131_code (2 : Nat) (Option.none : Option Jvm.ClassFile.FieldType), Jvm.Cond.code ({ cls := "java/lang/Math", name := "min", desc := "(II)I" } : Jvm.MethodName) jdk_29_method_69_code (2 : Nat) (Option.some Jvm.ClassFile.FieldType.int), Jvm.Cond.code ({ cls := "java/lang/Math", name := "abs", desc := "(J)J" } : Jvm.MethodName) jdk_29_method_61_code (2 : Nat) (Option.some Jvm.ClassFile.FieldType.long), Jvm.Cond.code ({ cls := "com/example/ranker/ranker/RunFileLinePinLaw", name := "digits", desc := "(J)I" } : Jvm.MethodName) method_4_code (3 : Nat) (Option.some Jvm.ClassFile.FieldType.int), Jvm.Cond.code ({ cls := "com/example/ranker/ranker/RunFileLinePinLaw", name := "same", desc := "(Ljava/lang/String;ILjava/lang/String;)Z" } : Jvm.MethodName) method_6_code (3 : Nat) (Option.some Jvm.ClassFile.FieldType.boolean), Jvm.Cond.code ({ cls := "java/lang/String", name := "charAt", desc := "(I)C" } : Jvm.MethodName) jdk_42_method_56_code (2 : Nat) (Option.some Jvm.ClassFile.FieldType.char), Jvm.Cond.code ({ cls := "java/lang/String", name := "isLatin1", desc := "()Z" } : Jvm.MethodName) jdk_42_method_154_code (1 : Nat) (Option.some Jvm.ClassFile.FieldType.boolean), Jvm.Cond.code ({ cls := "java/lang/StringLatin1", name := "charAt", desc := "([BI)C" } : Jvm.MethodName) jdk_43_method_2_code (2 : Nat) (Option.some Jvm.ClassFile.FieldType.char), Jvm.Cond.code ({ cls := "java/lang/String", name := "checkIndex", desc := "(II)V" } : Jvm.MethodName) jdk_42_method_155_code (2 : Nat) (Option.none : Option Jvm.ClassFile.FieldType), Jvm.Cond.code ({ cls := "jdk/internal/util/Preconditions", name := "checkIndex", desc := "(IILjava/util/function/BiFunction;)I" } : Jvm.MethodName) jdk_41_method_11_code (3 : Nat) (Option.some Jvm.ClassFile.FieldType.int), Jvm.Cond.code ({ cls := "com/example/ranker/ranker/RunFileLinePinLaw", name := "dig", desc := "(Ljava/lang/String;IJJ)Z" } : Jvm.MethodName) method_5_code (6 : Nat) (Option.some Jvm.ClassFile.FieldType.boolean), Jvm.Cond.code ({ cls := "java/lang/AbstractStringBuilder", name := "newCapacity", desc := "(I)I" } : Jvm.MethodName) jdk_68_method_10_code (6 : Nat) (Option.some Jvm.ClassFile.FieldType.int), Jvm.Cond.code ({ cls := "jdk/internal/util/ArraysSupport", name := "newLength", desc := "(III)I" } : Jvm.MethodName) jdk_48_method_27_code (4 : Nat) (Option.some Jvm.ClassFile.FieldType.int), Jvm.Cond.code ({ cls := "java/lang/Math", name := "max", desc := "(II)I" } : Jvm.MethodName) jdk_29_method_65_code (2 : Nat) (Option.some Jvm.ClassFile.FieldType.int), Jvm.Cond.code ({ cls := "java/util/Arrays", name := "copyOf", desc := "([BI)[B" } : Jvm.MethodName) jdk_65_method_121_code (3 : Nat) (Option.some (Jvm.ClassFile.FieldType.array Jvm.ClassFile.FieldType.byte))]
set_option maxRecDepth 65536 in
theorem codes_eq : words1.filter isCode = codes1 := rfl
theorem w_codes : ∀ c ∈ words1.filter isCode, c.before args0 about1 = true := by
  rw [codes_eq]
  intro c hc
  simp only [codes1, List.mem_cons, List.not_mem_nil, or_false] at hc
  rcases hc with rfl | rfl | rfl | rfl | rfl | rfl | rfl | rfl | rfl | rfl | rfl | rfl | rfl | rfl | rfl | rfl | rfl | rfl | rfl | rfl | rfl | rfl | rfl | rfl | rfl | rfl | rfl | rfl | rfl | rfl | rfl | rfl | rfl | rfl | rfl | rfl | rfl | rfl | rfl | rfl | rfl | rfl | rfl | rfl | rfl | rfl | rfl
  · exact w_c0
  · exact w_c1
  · exact w_c2
  · exact w_c3
  · exact w_c4
  · exact w_c5
  · exact w_c6
  · exact w_c7
  · exact w_c8
  · exact w_c9
  · exact w_c10
  · exact w_c11
  · exact w_c12
  · exact w_c13
  · exact w_c14
  · exact w_c15
  · exact w_c16
  · exact w_c17
  · exact w_c18
  · exact w_c19
  · exact w_c20
  · exact w_c21
  · exact w_c22
  · exact w_c23
  · exact w_c24
  · exact w_c25
  · exact w_c26
  · exact w_c27
  · exact w_c28
  · exact w_c29
  · exact w_c30
  · exact w_c31
  · exact w_c32
  · exact w_c33
  · exact w_c34
  · exact w_c35
  · exact w_c36
  · exact w_c37
  · exact w_c38
  · exact w_c39
  · exact w_c40
  · exact w_c41
  · exact w_c42
  · exact w_c43
  · exact w_c44
  · exact w_c45
  · exact w_c46
set_option maxRecDepth 65536 in
theorem w_t1 : (words1.take 24).all (fun c => isCode c || c.before args0 about1) = true := by decide +kernel
set_option maxRecDepth 65536 in
theorem w_t2 : ((words1.drop 24).take 24).all (fun c => isCode c || c.before args0 about1) = true := by decide +kernel
set_option maxRecDepth 65536 in
theorem w_t3 : (((words1.drop 24).drop 24).take 24).all (fun c => isCode c || c.before args0 about1) = true := by decide +kernel
set_option maxRecDepth 65536 in
theorem w_t4 : ((((words1.drop 24).drop 24).drop 24).take 24).all (fun c => isCode c || c.before args0 about1) = true := by decide +kernel
set_option maxRecDepth 65536 in
theorem w_t5 : (((((words1.drop 24).drop 24).drop 24).drop 24).take 24).all (fun c => isCode c || c.before args0 about1) = true := by decide +kernel
set_option maxRecDepth 65536 in
theorem w_t6 : ((((((words1.drop 24).drop 24).drop 24).drop 24).drop 24).take 24).all (fun c => isCode c || c.before args0 about1) = true := by decide +kernel
set_option maxRecDepth 65536 in
theorem w_t7 : (((((((words1.drop 24).drop 24).drop 24).drop 24).drop 24).drop 24).take 24).all (fun c => isCode c || c.before args0 about1) = true := by decide +kernel
set_option maxRecDepth 65536 in
theorem w_t8 : ((((((((words1.drop 24).drop 24).drop 24).drop 24).drop 24).drop 24).drop 24).take 24).all (fun c => isCode c || c.before args0 about1) = true := by decide +kernel
set_option maxRecDepth 65536 in
theorem w_t9 : (((((((((words1.drop 24).drop 24).drop 24).drop 24).drop 24).drop 24).drop 24).drop 24).take 24).all (fun c => isCode c || c.before args0 about1) = true := by decide +kernel
set_option maxRecDepth 65536 in
theorem w_t10 : ((((((((((words1.drop 24).drop 24).drop 24).drop 24).drop 24).drop 24).drop 24).drop 24).drop 24).take 24).all (fun c => isCode c || c.before args0 about1) = true := by decide +kernel
set_option maxRecDepth 65536 in
theorem w_t11 : ((((((((((words1.drop 24).drop 24).drop 24).drop 24).drop 24).drop 24).drop 24).drop 24).drop 24).drop 24).all (fun c => isCode c || c.before args0 about1) = true := by decide +kernel
theorem w_tables : (allAtoms (Jvm.Cond.code x code maxLocals ret :: tables_1)).before args0 about1 = true := by
  rw [allAtoms_all]
  show words1.all (fun c => c.before args0 about1) = true
  refine all_split ?_ w_codes
  rw [← List.take_append_drop 24 words1, List.all_append, w_t1, ← List.take_append_drop 24 (words1.drop 24), List.all_append, w_t2, ← List.take_append_drop 24 ((words1.drop 24).drop 24), List.all_append, w_t3, ← List.take_append_drop 24 (((words1.drop 24).drop 24).drop 24), List.all_append, w_t4, ← List.take_append_drop 24 ((((words1.drop 24).drop 24).drop 24).drop 24), List.all_append, w_t5, ← List.take_append_drop 24 (((((words1.drop 24).drop 24).drop 24).drop 24).drop 24), List.all_append, w_t6, ← List.take_append_drop 24 ((((((words1.drop 24).drop 24).drop 24).drop 24).drop 24).drop 24), List.all_append, w_t7, ← List.take_append_drop 24 (((((((words1.drop 24).drop 24).drop 24).drop 24).drop 24).drop 24).drop 24), List.all_append, w_t8, ← List.take_append_drop 24 ((((((((words1.drop 24).drop 24).drop 24).drop 24).drop 24).drop 24).drop 24).drop 24), List.all_append, w_t9, ← List.take_append_drop 24 (((((((((words1.drop 24).drop 24).drop 24).drop 24).drop 24).drop 24).drop 24).drop 24).drop 24), List.all_append, w_t10, w_t11]
  rfl
set_option maxRecDepth 65536 in
theorem w_rest : rest_1_c.before args0 about1 = true := by decide +kernel
set_option maxRecDepth 65536 in
theorem w_case : (Jvm.Cond.and given_1 narrow_1).before args0 about1 = true := by decide +kernel
set_option maxRecDepth 65536 in
theorem w_consts : constsHeld consts_1 about1 := Jvm.Lit.constsHeldB_iff.mp (by decide +kernel)
theorem w_applies : (headSpec (Jvm.Cond.code x code maxLocals ret :: tables_1) room_1).applies x e0.platform about1 = true :=
  (Spec.applies_iff w_frames).mpr ⟨w_running, w_runnable, w_alone, w_named, w_hears, w_ripe, w_room, w_tables⟩
theorem atStart : AtStart classFile x code maxLocals ret World_1 tables_1 room_1 Calls_1 rest_1 Pre_1 launch0 p0 e0 about1 theMethod args0 below0 :=
  ⟨lists_1, trivial, launch0.admits_env _ _ _, launch0.least_env, fairChoices_fair.cas, fairChoices_fair.clock, w_frames, w_args, w_heap, w_applies, ⟨w_consts, trivial⟩, w_rest, w_case⟩
end start1
theorem witness_1 : WitnessClaimed_1 := ⟨start1.p0, start1.e0, start1.about1, start1.theMethod, start1.args0, start1.below0, start1.atStart⟩
end Jvm.Pilot.@@N@@
