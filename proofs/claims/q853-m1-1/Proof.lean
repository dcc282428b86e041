import JvmDerived
import JvmDerived.Pilot.@@N@@Statement
import JvmDerived.Pilot.@@N@@Code
set_option linter.unusedVariables false
set_option linter.unusedSimpArgs false
namespace Jvm.OwnKit
open Sem ClassFile Op Lib Jvm.Stand Jvm.Free Jvm.LawKit Jvm.RoadKit
abbrev Kx := (List Loc → Prop) × (Outcome → State → List Loc → Prop) × Program × Env × State × MethodId × Array Value × List Frame × Method × Code
def KS (K : Kx) : State := K.2.2.2.2.1
/-- what is fixed while one body is walked; fl: places may be written; kz: what the heap's length must reach at the end -/
def Ctx (l : Launch) (R : Room) (Z : State) (own nm : String) (code : ByteArray) (maxL : Nat) (ret : Option FieldType) (fl : Bool) (n0 kz : Nat) : Kx → Prop
  | (Pl, En, p, e, s, m, args, below, meth, c) => p.tables.exec = Jvm.exec ∧ Z.Warmed39 s.vm ∧ s.vm.findClass own = some m.cls ∧ c.code = code ∧ c.maxLocals = maxL ∧ meth.sig.returnType = ret ∧ meth.name = nm ∧ meth.locks = false ∧ (fl = true → ∀ A B, Pl A → Fr n0 B → Pl (A ++ B)) ∧ (∀ A, Pl A → Fr n0 A) ∧
    ∀ v (t : State) A, kz ≤ t.heap.size → s.WarmedH t.vm → s.sameButNew ({ t with vm := s.vm } : State) A R.cells R.slots → En (.returned v) t A
/-- from every stand with the heap h at this frame the body ends as Q says, all that it wrote lying at n0 or above -/
def Run (l : Launch) (R : Room) (n0 : Nat) (Q : Option Value → Heap → Vm → Prop) : Kx → Heap → Nat → Nat → Nat → Array Slot → List Value → Prop
  | (Pl, En, p, e, s, m, args, below, meth, c), h, cells, slots, pc, Ls, st => ∀ (T : State) (locs : List Loc), Stand p l e R s m args below meth c T locs cells slots → T.heap = h → Pl locs →
    ∃ s₂ o, Steps p.tables e below (T.setTop (mkF m pc Ls st)) s₂ ∧ s₂.status = .running ∧ Ended s₂ below o ∧ ∃ v L, o = .returned v ∧ (Q v s₂.heap s₂.vm ∧ Fr n0 L) ∧ En o s₂ L
/-- a body's contract: it interns nothing -/
def Con (l : Launch) (ws : List Jvm.Cond) (y : MethodName) (bytes : ByteArray) (maxL : Nat) (ret : Option FieldType) (rm : Room) (Z : State) (as : Array Value) (h0 : Heap) (n0 : Nat) (Q : Option Value → Heap → Prop) : Prop :=
  MetFree l y (head1 (Jvm.Cond.code y bytes maxL ret :: ws) rm) (fun a U => a = as ∧ Z.Warmed39 U.vm ∧ U.heap = h0) (fun _ _ _ _ _ => True) (fun _ U o U' => ∃ v L, o = .returned v ∧ (Q v U'.heap ∧ Fr n0 L) ∧ FrameEnd U o U' L rm.cells rm.slots)
/-- a body's contract: it may intern; V: what its start knows of the tables -/
def ConW (l : Launch) (ws : List Jvm.Cond) (y : MethodName) (bytes : ByteArray) (maxL : Nat) (ret : Option FieldType) (rm : Room) (Z : State) (as : Array Value) (h0 : Heap) (n0 : Nat) (V : Vm → Prop) (Q : Option Value → Heap → Vm → Prop) : Prop :=
  MetFree l y (head1 (Jvm.Cond.code y bytes maxL ret :: ws) rm) (fun a U => a = as ∧ Z.Warmed39 U.vm ∧ U.heap = h0 ∧ V U.vm) (fun _ _ _ _ _ => True) (fun _ U o U' => ∃ v L, o = .returned v ∧ (Q v U'.heap U'.vm ∧ Fr n0 L) ∧ ReturnedEndW U o U' L rm.cells rm.slots)
section
variable {l : Launch} {R : Room} {Z : State} {own nm : String} {code : ByteArray} {maxL : Nat} {ret : Option FieldType} {K : Kx} {fl : Bool} {n0 kz : Nat} {Q : Option Value → Heap → Vm → Prop} {h : Heap} {cells slots pc pc' : Nat} {Ls Ls' : Array Slot} {st rest : List Value} {a0 : Array Value}
theorem enter {ws : List Jvm.Cond} {y : MethodName} {as : Array Value} {h0 : Heap} {Q : Option Value → Heap → Prop} (pn : plainFor y = true) (ef : ∀ m, entryFrame m as maxL = mkF m 0 Ls []) (H : ∀ K, Ctx l R Z y.cls y.name code maxL ret true n0 0 K → Run l R n0 (fun v h _ => Q v h) K h0 0 0 0 Ls []) : Con l ws y code maxL ret R Z as h0 n0 Q := by
  refine MetFree.of_bodySF pn hisR ?_
  intro p e s m args below meth c s₁ Bd hml0 hP hK
  obtain ⟨rfl, hZ, hh⟩ := hP
  have X0 : Stand p l e R s m args below meth c s₁ [] 0 0 := Stand.of_body Bd
  obtain ⟨s2, o, k1, k2, k3, k4⟩ := H (Fr n0, fun o t L => FrameEnd s o t L R.cells R.slots, p, e, s, m, args, below, meth, c) ⟨Bd.exec, hZ, findClass_of_methodNamed Bd.named, Bd.bytes, hml0, Bd.returns, (name_of_methodNamed Bd.named Bd.method).1, Bd.notSynchronized, fun _ A B a b => Fr.app a b, fun A a => a, fun v t A _ h1 h2 => ⟨⟨v, rfl⟩, h1, h2⟩⟩ s₁ [] X0 (by rw [← hh, Bd.state]; rfl) (Fr.nil n0)
  exact ⟨s2, o, castTop (ef m) k1, k2, k3, k4⟩
/-- the base of a wide walk: whatever the tables have gained since the body's start, it ends well -/
def Wb (l : Launch) (R : Room) (Z : State) (own nm : String) (code : ByteArray) (maxL : Nat) (ret : Option FieldType) (n0 : Nat) (h0 : Heap) : Kx → Prop
  | (Pl, En, p, e, s, m, args, below, meth, c) => p.tables.exec = Jvm.exec ∧ Z.Warmed39 s.vm ∧ s.vm.findClass own = some m.cls ∧ c.code = code ∧ c.maxLocals = maxL ∧ meth.sig.returnType = ret ∧ meth.name = nm ∧ meth.locks = false ∧ s.heap = h0 ∧
    ∀ vm k v (t : State) A, s.Since vm k → k ≤ t.heap.size → (s.setVm vm).WarmedH t.vm → (s.setVm vm).sameButNew ({ t with vm := vm } : State) A R.cells R.slots → En (.returned v) t A
def Kw : Kx → (List Loc → Prop) → Vm → Kx
  | (_, En, p, e, s, m, args, below, meth, c), Pl, w => (Pl, En, p, e, s.setVm w, m, args, below, meth, c)
/-- the tables have become vm since the start -/
def Sn (K : Kx) (vm : Vm) (k : Nat) : Prop := (KS K).Since vm k
theorem Wb.ctx {h0 : Heap} {vm : Vm} {k : Nat} (W : Wb l R Z own nm code maxL ret n0 h0 K) (D : Sn K vm k) : Ctx l R Z own nm code maxL ret true n0 k (Kw K (Fr n0) vm) := by
  obtain ⟨Pl, En, p, e, s, m, args, below, meth, c⟩ := K
  obtain ⟨w1, w2, w3, w4, w5, w6, w7, w8, w9, w10⟩ := W
  have D' : s.Since vm k := D
  exact ⟨w1, State.Warmed39.trans w2 D'.1, by rw [show (s.setVm vm).vm = vm from rfl, D'.1.alike.findClass]; exact w3, w4, w5, w6, w7, w8, fun _ A B a b => Fr.app a b, fun A a => a, fun v t A h1 h2 h3 => w10 vm k v t A D' h1 h2 h3⟩
theorem Wb.ctx0 {h0 : Heap} {vm : Vm} {k : Nat} (W : Wb l R Z own nm code maxL ret n0 h0 K) (D : Sn K vm k) : Ctx l R Z own nm code maxL ret false n0 k (Kw K (· = []) vm) := by
  obtain ⟨Pl, En, p, e, s, m, args, below, meth, c⟩ := K
  obtain ⟨w1, w2, w3, w4, w5, w6, w7, w8, w9, w10⟩ := W
  have D' : s.Since vm k := D
  exact ⟨w1, State.Warmed39.trans w2 D'.1, by rw [show (s.setVm vm).vm = vm from rfl, D'.1.alike.findClass]; exact w3, w4, w5, w6, w7, w8, (fun q => Bool.noConfusion q), (fun A (a : A = []) => a ▸ Fr.nil n0), fun v t A h1 h2 h3 => w10 vm k v t A D' h1 h2 h3⟩
/-- nothing written so far: from now on anything may be -/
theorem Run.touch {vm : Vm} (r : Run l R n0 Q (Kw K (Fr n0) vm) h cells slots pc Ls st) : Run l R n0 Q (Kw K (· = []) vm) h cells slots pc Ls st := by
  obtain ⟨Pl, En, p, e, s, m, args, below, meth, c⟩ := K
  intro T locs X eT N
  exact r T locs X eT (by rw [N]; exact Fr.nil n0)
theorem since_refl (s : State) : s.Since s.vm s.heap.size := ⟨State.Warmed39.refl s, fun j p h1 h2 => absurd (Array.getElem?_eq_some_iff.mp h2).1 (Nat.not_lt.mpr h1)⟩
theorem enterW {ws : List Jvm.Cond} {y : MethodName} {as : Array Value} {h0 : Heap} {V : Vm → Prop} (pn : plainFor y = true) (ef : ∀ m, entryFrame m as maxL = mkF m 0 Ls []) (H : ∀ K vm k, Wb l R Z y.cls y.name code maxL ret n0 h0 K → Sn K vm k → k ≤ h0.size → V vm → Run l R n0 Q (Kw K (· = []) vm) h0 0 0 0 Ls []) : ConW l ws y code maxL ret R Z as h0 n0 V Q := by
  refine MetFree.of_bodySF pn hisR ?_
  intro p e s m args below meth c s₁ Bd hml0 hP hK
  obtain ⟨rfl, hZ, hh, hV⟩ := hP
  have X0 : Stand p l e R s m args below meth c s₁ [] 0 0 := Stand.of_body Bd
  obtain ⟨s2, o, k1, k2, k3, k4⟩ := H (Fr n0, fun o t L => ReturnedEndW s o t L R.cells R.slots, p, e, s, m, args, below, meth, c) s.vm s.heap.size ⟨Bd.exec, hZ, findClass_of_methodNamed Bd.named, Bd.bytes, hml0, Bd.returns, (name_of_methodNamed Bd.named Bd.method).1, Bd.notSynchronized, hh, fun vm k v t A hS hk h1 h2 => ⟨⟨v, rfl⟩, hS.ended h1 hk h2⟩⟩ (since_refl s) (by rw [hh]; exact Nat.le_refl _) hV s₁ [] X0 (by rw [← hh, Bd.state]; rfl) rfl
  exact ⟨s2, o, castTop (ef m) k1, k2, k3, k4⟩
theorem Run.le {cells' slots' : Nat} (hc : cells ≤ cells') (hs : slots ≤ slots') (r : Run l R n0 Q K h cells' slots' pc Ls st) : Run l R n0 Q K h cells slots pc Ls st := by
  obtain ⟨Pl, En, p, e, s, m, args, below, meth, c⟩ := K
  intro T locs X eT N
  exact r T locs (X.more hc hs) eT N
theorem Con.weaken {ws : List Jvm.Cond} {y : MethodName} {as : Array Value} {Q Q' : Option Value → Heap → Prop} (r : Con l ws y code maxL ret R Z as h n0 Q') (hq : ∀ v h, Q' v h → Q v h) : Con l ws y code maxL ret R Z as h n0 Q := by
  intro p e a1 a2 a3 s m args below a4 a5 a6 a7
  obtain ⟨s2, o, k1, k2, k3, v, L, k4, ⟨k5, k6⟩, k7⟩ := r p e a1 a2 a3 s m args below a4 a5 a6 a7
  exact ⟨s2, o, k1, k2, k3, v, L, k4, ⟨hq _ _ k5, k6⟩, k7⟩
/-- one step that moves the frame alone -/
theorem Run.pure (C : Ctx l R Z own nm code maxL ret fl n0 kz K) (hp : pc + 0 = pc ∨ True)
    (k : ∀ (p : Program) (e : Env) (s : State) (m : MethodId) (args : Array Value) (below : List Frame) (meth : Method) (c : Code), p.tables.exec = Jvm.exec → c.code = code → s.vm.findClass own = some m.cls → Z.Warmed39 s.vm → ∀ (T : State) (locs : List Loc), Stand p l e R s m args below meth c T locs cells slots → T.heap = h → ∀ target, Steps p.tables e below (T.setTop (mkF m pc' Ls' rest)) target → Steps p.tables e below (T.setTop (mkF m pc Ls st)) target)
    (r : Run l R n0 Q K h cells slots pc' Ls' rest) : Run l R n0 Q K h cells slots pc Ls st := by
  obtain ⟨Pl, En, p, e, s, m, args, below, meth, c⟩ := K
  intro T locs X eT N
  obtain ⟨hx, hZ, hown, hby, -⟩ := C
  obtain ⟨s2, o, k1, k2⟩ := r T locs X eT N
  exact ⟨s2, o, k p e s m args below meth c hx hby hown hZ T locs X eT _ k1, k2⟩

theorem r_aloadN (C : Ctx l R Z own nm code maxL ret fl n0 kz K) {k : Fin 4} {v : Value} (hd : decode code pc = .ok (.aload_n k, 1)) (hp : pc + 1 = pc') (hl : Ls[k.val]? = some (.val v)) (hv : v.isRef = true) (r : Run l R n0 Q K h cells slots pc' Ls (v :: st)) : Run l R n0 Q K h cells slots pc Ls (st) :=
  Run.pure C (Or.inr trivial) (fun p e s m args below meth c hx hby hown hZ T locs X eT target k => by subst hp; exact XS.aloadN X.here hx rfl (hb hby hd) hl hv k) r
theorem r_aload (C : Ctx l R Z own nm code maxL ret fl n0 kz K) {k : Nat} {v : Value} (hd : decode code pc = .ok (.aload k, 2)) (hp : pc + 2 = pc') (hl : Ls[k]? = some (.val v)) (hv : v.isRef = true) (r : Run l R n0 Q K h cells slots pc' Ls (v :: st)) : Run l R n0 Q K h cells slots pc Ls (st) :=
  Run.pure C (Or.inr trivial) (fun p e s m args below meth c hx hby hown hZ T locs X eT target k => by subst hp; exact XS.aload X.here hx rfl (hb hby hd) hl hv k) r
theorem r_iloadN (C : Ctx l R Z own nm code maxL ret fl n0 kz K) {k : Fin 4} {v : Int32} (hd : decode code pc = .ok (.iload_n k, 1)) (hp : pc + 1 = pc') (hl : Ls[k.val]? = some (.val (.int v))) (r : Run l R n0 Q K h cells slots pc' Ls (.int v :: st)) : Run l R n0 Q K h cells slots pc Ls (st) :=
  Run.pure C (Or.inr trivial) (fun p e s m args below meth c hx hby hown hZ T locs X eT target k => by subst hp; exact XS.iloadN X.here hx rfl (hb hby hd) hl k) r
theorem r_iload (C : Ctx l R Z own nm code maxL ret fl n0 kz K) {k : Nat} {v : Int32} (hd : decode code pc = .ok (.iload k, 2)) (hp : pc + 2 = pc') (hl : Ls[k]? = some (.val (.int v))) (r : Run l R n0 Q K h cells slots pc' Ls (.int v :: st)) : Run l R n0 Q K h cells slots pc Ls (st) :=
  Run.pure C (Or.inr trivial) (fun p e s m args below meth c hx hby hown hZ T locs X eT target k => by subst hp; exact XS.iload X.here hx rfl (hb hby hd) hl k) r
theorem r_lloadN (C : Ctx l R Z own nm code maxL ret fl n0 kz K) {k : Fin 4} {v : Int64} (hd : decode code pc = .ok (.lload_n k, 1)) (hp : pc + 1 = pc') (hl : Ls[k.val]? = some (.val (.long v))) (r : Run l R n0 Q K h cells slots pc' Ls (.long v :: st)) : Run l R n0 Q K h cells slots pc Ls (st) :=
  Run.pure C (Or.inr trivial) (fun p e s m args below meth c hx hby hown hZ T locs X eT target k => by subst hp; exact XT.lloadN X.here hx rfl (hb hby hd) hl k) r
theorem r_lload (C : Ctx l R Z own nm code maxL ret fl n0 kz K) {k : Nat} {v : Int64} (hd : decode code pc = .ok (.lload k, 2)) (hp : pc + 2 = pc') (hl : Ls[k]? = some (.val (.long v))) (r : Run l R n0 Q K h cells slots pc' Ls (.long v :: st)) : Run l R n0 Q K h cells slots pc Ls (st) :=
  Run.pure C (Or.inr trivial) (fun p e s m args below meth c hx hby hown hZ T locs X eT target k => by subst hp; exact XT.lload X.here hx rfl (hb hby hd) hl k) r
theorem r_astoreN (C : Ctx l R Z own nm code maxL ret fl n0 kz K) {k : Fin 4} {v : Value} (hd : decode code pc = .ok (.astore_n k, 1)) (hp : pc + 1 = pc') (hl : storeLocals Ls k.val v = some Ls') (hv : v.isRef = true) (r : Run l R n0 Q K h cells slots pc' Ls' (st)) : Run l R n0 Q K h cells slots pc Ls (v :: st) :=
  Run.pure C (Or.inr trivial) (fun p e s m args below meth c hx hby hown hZ T locs X eT target k => by subst hp; exact XS.astoreN X.here hx rfl (hb hby hd) rfl hv hl k) r
theorem r_astore (C : Ctx l R Z own nm code maxL ret fl n0 kz K) {k : Nat} {v : Value} (hd : decode code pc = .ok (.astore k, 2)) (hp : pc + 2 = pc') (hl : storeLocals Ls k v = some Ls') (hv : v.isRef = true) (r : Run l R n0 Q K h cells slots pc' Ls' (st)) : Run l R n0 Q K h cells slots pc Ls (v :: st) :=
  Run.pure C (Or.inr trivial) (fun p e s m args below meth c hx hby hown hZ T locs X eT target k => by subst hp; exact XS.astore X.here hx rfl (hb hby hd) rfl hv hl k) r
theorem r_istoreN (C : Ctx l R Z own nm code maxL ret fl n0 kz K) {k : Fin 4} {v : Int32} (hd : decode code pc = .ok (.istore_n k, 1)) (hp : pc + 1 = pc') (hl : storeLocals Ls k.val (.int v) = some Ls') (r : Run l R n0 Q K h cells slots pc' Ls' (st)) : Run l R n0 Q K h cells slots pc Ls (.int v :: st) :=
  Run.pure C (Or.inr trivial) (fun p e s m args below meth c hx hby hown hZ T locs X eT target k => by subst hp; exact XS.istoreN X.here hx rfl (hb hby hd) rfl hl k) r
theorem r_istore (C : Ctx l R Z own nm code maxL ret fl n0 kz K) {k : Nat} {v : Int32} (hd : decode code pc = .ok (.istore k, 2)) (hp : pc + 2 = pc') (hl : storeLocals Ls k (.int v) = some Ls') (r : Run l R n0 Q K h cells slots pc' Ls' (st)) : Run l R n0 Q K h cells slots pc Ls (.int v :: st) :=
  Run.pure C (Or.inr trivial) (fun p e s m args below meth c hx hby hown hZ T locs X eT target k => by subst hp; exact XS.istore X.here hx rfl (hb hby hd) rfl hl k) r
theorem r_lstoreN (C : Ctx l R Z own nm code maxL ret fl n0 kz K) {k : Fin 4} {v : Int64} (hd : decode code pc = .ok (.lstore_n k, 1)) (hp : pc + 1 = pc') (hl : storeLocals Ls k.val (.long v) = some Ls') (r : Run l R n0 Q K h cells slots pc' Ls' (st)) : Run l R n0 Q K h cells slots pc Ls (.long v :: st) :=
  Run.pure C (Or.inr trivial) (fun p e s m args below meth c hx hby hown hZ T locs X eT target k => by subst hp; exact XT.lstoreN X.here hx rfl (hb hby hd) rfl hl k) r
theorem r_lstore (C : Ctx l R Z own nm code maxL ret fl n0 kz K) {k : Nat} {v : Int64} (hd : decode code pc = .ok (.lstore k, 2)) (hp : pc + 2 = pc') (hl : storeLocals Ls k (.long v) = some Ls') (r : Run l R n0 Q K h cells slots pc' Ls' (st)) : Run l R n0 Q K h cells slots pc Ls (.long v :: st) :=
  Run.pure C (Or.inr trivial) (fun p e s m args below meth c hx hby hown hZ T locs X eT target k => by subst hp; exact XT.lstore X.here hx rfl (hb hby hd) rfl hl k) r
theorem r_iconst (C : Ctx l R Z own nm code maxL ret fl n0 kz K) {i : Int} {v : Int32} (hd : decode code pc = .ok (.iconst i, 1)) (hp : pc + 1 = pc') (hv : Int32.ofInt i = v) (r : Run l R n0 Q K h cells slots pc' Ls (.int v :: st)) : Run l R n0 Q K h cells slots pc Ls (st) :=
  Run.pure C (Or.inr trivial) (fun p e s m args below meth c hx hby hown hZ T locs X eT target k => by subst hp; exact XT.iconstV X.here hx rfl v (hb hby hd) hv k) r
theorem r_bipush (C : Ctx l R Z own nm code maxL ret fl n0 kz K) {i : Int} {v : Int32} (hd : decode code pc = .ok (.bipush i, 2)) (hp : pc + 2 = pc') (hv : (Int8.ofInt i).toInt32 = v) (r : Run l R n0 Q K h cells slots pc' Ls (.int v :: st)) : Run l R n0 Q K h cells slots pc Ls (st) :=
  Run.pure C (Or.inr trivial) (fun p e s m args below meth c hx hby hown hZ T locs X eT target k => by subst hp; exact XT.bipushV X.here hx rfl v (hb hby hd) hv k) r
theorem r_sipush (C : Ctx l R Z own nm code maxL ret fl n0 kz K) {i : Int} {v : Int32} (hd : decode code pc = .ok (.sipush i, 3)) (hp : pc + 3 = pc') (hv : (Int16.ofInt i).toInt32 = v) (r : Run l R n0 Q K h cells slots pc' Ls (.int v :: st)) : Run l R n0 Q K h cells slots pc Ls (st) :=
  Run.pure C (Or.inr trivial) (fun p e s m args below meth c hx hby hown hZ T locs X eT target k => by subst hp; exact XT.sipushV X.here hx rfl v (hb hby hd) hv k) r
theorem r_lconst (C : Ctx l R Z own nm code maxL ret fl n0 kz K) {i : Fin 2} {v : Int64} (hd : decode code pc = .ok (.lconst i, 1)) (hp : pc + 1 = pc') (hv : Int64.ofNat i = v) (r : Run l R n0 Q K h cells slots pc' Ls (.long v :: st)) : Run l R n0 Q K h cells slots pc Ls (st) :=
  Run.pure C (Or.inr trivial) (fun p e s m args below meth c hx hby hown hZ T locs X eT target k => by subst hp; exact XT.lconstV X.here hx rfl v (hb hby hd) hv k) r
theorem r_aconst_null (C : Ctx l R Z own nm code maxL ret fl n0 kz K) (hd : decode code pc = .ok (.aconst_null, 1)) (hp : pc + 1 = pc') (r : Run l R n0 Q K h cells slots pc' Ls (.null :: st)) : Run l R n0 Q K h cells slots pc Ls (st) :=
  Run.pure C (Or.inr trivial) (fun p e s m args below meth c hx hby hown hZ T locs X eT target k => by subst hp; exact XS.aconstNull X.here hx rfl (hb hby hd) k) r
theorem r_iadd (C : Ctx l R Z own nm code maxL ret fl n0 kz K) {x y : Int32} (hd : decode code pc = .ok (.iadd, 1)) (hp : pc + 1 = pc') (r : Run l R n0 Q K h cells slots pc' Ls (.int (x + y) :: st)) : Run l R n0 Q K h cells slots pc Ls (.int y :: .int x :: st) :=
  Run.pure C (Or.inr trivial) (fun p e s m args below meth c hx hby hown hZ T locs X eT target k => by subst hp; exact XS.iadd X.here hx rfl (hb hby hd) rfl k) r
theorem r_isub (C : Ctx l R Z own nm code maxL ret fl n0 kz K) {x y : Int32} (hd : decode code pc = .ok (.isub, 1)) (hp : pc + 1 = pc') (r : Run l R n0 Q K h cells slots pc' Ls (.int (x - y) :: st)) : Run l R n0 Q K h cells slots pc Ls (.int y :: .int x :: st) :=
  Run.pure C (Or.inr trivial) (fun p e s m args below meth c hx hby hown hZ T locs X eT target k => by subst hp; exact XS.isub X.here hx rfl (hb hby hd) rfl k) r
theorem r_imul (C : Ctx l R Z own nm code maxL ret fl n0 kz K) {x y : Int32} (hd : decode code pc = .ok (.imul, 1)) (hp : pc + 1 = pc') (r : Run l R n0 Q K h cells slots pc' Ls (.int (x * y) :: st)) : Run l R n0 Q K h cells slots pc Ls (.int y :: .int x :: st) :=
  Run.pure C (Or.inr trivial) (fun p e s m args below meth c hx hby hown hZ T locs X eT target k => by subst hp; exact XS.imul X.here hx rfl (hb hby hd) rfl k) r
theorem r_iand (C : Ctx l R Z own nm code maxL ret fl n0 kz K) {x y : Int32} (hd : decode code pc = .ok (.iand, 1)) (hp : pc + 1 = pc') (r : Run l R n0 Q K h cells slots pc' Ls (.int (x &&& y) :: st)) : Run l R n0 Q K h cells slots pc Ls (.int y :: .int x :: st) :=
  Run.pure C (Or.inr trivial) (fun p e s m args below meth c hx hby hown hZ T locs X eT target k => by subst hp; exact XS.iand X.here hx rfl (hb hby hd) rfl k) r
theorem r_ior (C : Ctx l R Z own nm code maxL ret fl n0 kz K) {x y : Int32} (hd : decode code pc = .ok (.ior, 1)) (hp : pc + 1 = pc') (r : Run l R n0 Q K h cells slots pc' Ls (.int (x ||| y) :: st)) : Run l R n0 Q K h cells slots pc Ls (.int y :: .int x :: st) :=
  Run.pure C (Or.inr trivial) (fun p e s m args below meth c hx hby hown hZ T locs X eT target k => by subst hp; exact XT.ior X.here hx rfl (hb hby hd) rfl k) r
theorem r_ixor (C : Ctx l R Z own nm code maxL ret fl n0 kz K) {x y : Int32} (hd : decode code pc = .ok (.ixor, 1)) (hp : pc + 1 = pc') (r : Run l R n0 Q K h cells slots pc' Ls (.int (x ^^^ y) :: st)) : Run l R n0 Q K h cells slots pc Ls (.int y :: .int x :: st) :=
  Run.pure C (Or.inr trivial) (fun p e s m args below meth c hx hby hown hZ T locs X eT target k => by subst hp; exact XT.ixor X.here hx rfl (hb hby hd) rfl k) r
theorem r_ishl (C : Ctx l R Z own nm code maxL ret fl n0 kz K) {x y : Int32} (hd : decode code pc = .ok (.ishl, 1)) (hp : pc + 1 = pc') (r : Run l R n0 Q K h cells slots pc' Ls (.int (x <<< (y &&& 31)) :: st)) : Run l R n0 Q K h cells slots pc Ls (.int y :: .int x :: st) :=
  Run.pure C (Or.inr trivial) (fun p e s m args below meth c hx hby hown hZ T locs X eT target k => by subst hp; exact XT.ishl X.here hx rfl (hb hby hd) rfl k) r
theorem r_ishr (C : Ctx l R Z own nm code maxL ret fl n0 kz K) {x y : Int32} (hd : decode code pc = .ok (.ishr, 1)) (hp : pc + 1 = pc') (r : Run l R n0 Q K h cells slots pc' Ls (.int (x >>> (y &&& 31)) :: st)) : Run l R n0 Q K h cells slots pc Ls (.int y :: .int x :: st) :=
  Run.pure C (Or.inr trivial) (fun p e s m args below meth c hx hby hown hZ T locs X eT target k => by subst hp; exact XT.ishr X.here hx rfl (hb hby hd) rfl k) r
theorem r_iushr (C : Ctx l R Z own nm code maxL ret fl n0 kz K) {x y : Int32} (hd : decode code pc = .ok (.iushr, 1)) (hp : pc + 1 = pc') (r : Run l R n0 Q K h cells slots pc' Ls (.int (XT.ushr x y) :: st)) : Run l R n0 Q K h cells slots pc Ls (.int y :: .int x :: st) :=
  Run.pure C (Or.inr trivial) (fun p e s m args below meth c hx hby hown hZ T locs X eT target k => by subst hp; exact XT.iushr X.here hx rfl (hb hby hd) rfl k) r
theorem r_ladd (C : Ctx l R Z own nm code maxL ret fl n0 kz K) {x y : Int64} (hd : decode code pc = .ok (.ladd, 1)) (hp : pc + 1 = pc') (r : Run l R n0 Q K h cells slots pc' Ls (.long (x + y) :: st)) : Run l R n0 Q K h cells slots pc Ls (.long y :: .long x :: st) :=
  Run.pure C (Or.inr trivial) (fun p e s m args below meth c hx hby hown hZ T locs X eT target k => by subst hp; exact XT.ladd X.here hx rfl (hb hby hd) rfl k) r
theorem r_lsub (C : Ctx l R Z own nm code maxL ret fl n0 kz K) {x y : Int64} (hd : decode code pc = .ok (.lsub, 1)) (hp : pc + 1 = pc') (r : Run l R n0 Q K h cells slots pc' Ls (.long (x - y) :: st)) : Run l R n0 Q K h cells slots pc Ls (.long y :: .long x :: st) :=
  Run.pure C (Or.inr trivial) (fun p e s m args below meth c hx hby hown hZ T locs X eT target k => by subst hp; exact XT.lsub X.here hx rfl (hb hby hd) rfl k) r
theorem r_lmul (C : Ctx l R Z own nm code maxL ret fl n0 kz K) {x y : Int64} (hd : decode code pc = .ok (.lmul, 1)) (hp : pc + 1 = pc') (r : Run l R n0 Q K h cells slots pc' Ls (.long (x * y) :: st)) : Run l R n0 Q K h cells slots pc Ls (.long y :: .long x :: st) :=
  Run.pure C (Or.inr trivial) (fun p e s m args below meth c hx hby hown hZ T locs X eT target k => by subst hp; exact XT.lmul X.here hx rfl (hb hby hd) rfl k) r
theorem r_land (C : Ctx l R Z own nm code maxL ret fl n0 kz K) {x y : Int64} (hd : decode code pc = .ok (.land, 1)) (hp : pc + 1 = pc') (r : Run l R n0 Q K h cells slots pc' Ls (.long (x &&& y) :: st)) : Run l R n0 Q K h cells slots pc Ls (.long y :: .long x :: st) :=
  Run.pure C (Or.inr trivial) (fun p e s m args below meth c hx hby hown hZ T locs X eT target k => by subst hp; exact XT.land X.here hx rfl (hb hby hd) rfl k) r
theorem r_lor (C : Ctx l R Z own nm code maxL ret fl n0 kz K) {x y : Int64} (hd : decode code pc = .ok (.lor, 1)) (hp : pc + 1 = pc') (r : Run l R n0 Q K h cells slots pc' Ls (.long (x ||| y) :: st)) : Run l R n0 Q K h cells slots pc Ls (.long y :: .long x :: st) :=
  Run.pure C (Or.inr trivial) (fun p e s m args below meth c hx hby hown hZ T locs X eT target k => by subst hp; exact XT.lor X.here hx rfl (hb hby hd) rfl k) r
theorem r_lxor (C : Ctx l R Z own nm code maxL ret fl n0 kz K) {x y : Int64} (hd : decode code pc = .ok (.lxor, 1)) (hp : pc + 1 = pc') (r : Run l R n0 Q K h cells slots pc' Ls (.long (x ^^^ y) :: st)) : Run l R n0 Q K h cells slots pc Ls (.long y :: .long x :: st) :=
  Run.pure C (Or.inr trivial) (fun p e s m args below meth c hx hby hown hZ T locs X eT target k => by subst hp; exact XT.lxor X.here hx rfl (hb hby hd) rfl k) r
theorem r_lshl (C : Ctx l R Z own nm code maxL ret fl n0 kz K) {x : Int64} {y : Int32} (hd : decode code pc = .ok (.lshl, 1)) (hp : pc + 1 = pc') (r : Run l R n0 Q K h cells slots pc' Ls (.long (x <<< (y.toInt64 &&& 63)) :: st)) : Run l R n0 Q K h cells slots pc Ls (.int y :: .long x :: st) :=
  Run.pure C (Or.inr trivial) (fun p e s m args below meth c hx hby hown hZ T locs X eT target k => by subst hp; exact XT.lshl X.here hx rfl (hb hby hd) rfl k) r
theorem r_lshr (C : Ctx l R Z own nm code maxL ret fl n0 kz K) {x : Int64} {y : Int32} (hd : decode code pc = .ok (.lshr, 1)) (hp : pc + 1 = pc') (r : Run l R n0 Q K h cells slots pc' Ls (.long (x >>> (y.toInt64 &&& 63)) :: st)) : Run l R n0 Q K h cells slots pc Ls (.int y :: .long x :: st) :=
  Run.pure C (Or.inr trivial) (fun p e s m args below meth c hx hby hown hZ T locs X eT target k => by subst hp; exact XT.lshr X.here hx rfl (hb hby hd) rfl k) r
theorem r_lushr (C : Ctx l R Z own nm code maxL ret fl n0 kz K) {x : Int64} {y : Int32} (hd : decode code pc = .ok (.lushr, 1)) (hp : pc + 1 = pc') (r : Run l R n0 Q K h cells slots pc' Ls (.long (XT.ushrL x y) :: st)) : Run l R n0 Q K h cells slots pc Ls (.int y :: .long x :: st) :=
  Run.pure C (Or.inr trivial) (fun p e s m args below meth c hx hby hown hZ T locs X eT target k => by subst hp; exact XT.lushr X.here hx rfl (hb hby hd) rfl k) r
theorem r_idiv (C : Ctx l R Z own nm code maxL ret fl n0 kz K) {x y : Int32} (hd : decode code pc = .ok (.idiv, 1)) (hp : pc + 1 = pc') (hy : y ≠ 0) (r : Run l R n0 Q K h cells slots pc' Ls (.int (x / y) :: st)) : Run l R n0 Q K h cells slots pc Ls (.int y :: .int x :: st) :=
  Run.pure C (Or.inr trivial) (fun p e s m args below meth c hx hby hown hZ T locs X eT target k => by subst hp; exact XS.idiv X.here hx rfl (hb hby hd) rfl hy k) r
theorem r_irem (C : Ctx l R Z own nm code maxL ret fl n0 kz K) {x y : Int32} (hd : decode code pc = .ok (.irem, 1)) (hp : pc + 1 = pc') (hy : y ≠ 0) (r : Run l R n0 Q K h cells slots pc' Ls (.int (x % y) :: st)) : Run l R n0 Q K h cells slots pc Ls (.int y :: .int x :: st) :=
  Run.pure C (Or.inr trivial) (fun p e s m args below meth c hx hby hown hZ T locs X eT target k => by subst hp; exact iremM X hx rfl (hb hby hd) rfl hy k) r
theorem r_ldiv (C : Ctx l R Z own nm code maxL ret fl n0 kz K) {x y : Int64} (hd : decode code pc = .ok (.ldiv, 1)) (hp : pc + 1 = pc') (hy : y ≠ 0) (r : Run l R n0 Q K h cells slots pc' Ls (.long (x / y) :: st)) : Run l R n0 Q K h cells slots pc Ls (.long y :: .long x :: st) :=
  Run.pure C (Or.inr trivial) (fun p e s m args below meth c hx hby hown hZ T locs X eT target k => by subst hp; exact XT.ldiv X.here hx rfl (hb hby hd) rfl hy k) r
theorem r_lrem (C : Ctx l R Z own nm code maxL ret fl n0 kz K) {x y : Int64} (hd : decode code pc = .ok (.lrem, 1)) (hp : pc + 1 = pc') (hy : y ≠ 0) (r : Run l R n0 Q K h cells slots pc' Ls (.long (x - (x / y) * y) :: st)) : Run l R n0 Q K h cells slots pc Ls (.long y :: .long x :: st) :=
  Run.pure C (Or.inr trivial) (fun p e s m args below meth c hx hby hown hZ T locs X eT target k => by subst hp; exact XT.lrem X.here hx rfl (hb hby hd) rfl hy k) r
theorem r_ineg (C : Ctx l R Z own nm code maxL ret fl n0 kz K) {x : Int32} (hd : decode code pc = .ok (.ineg, 1)) (hp : pc + 1 = pc') (r : Run l R n0 Q K h cells slots pc' Ls (.int (-x) :: st)) : Run l R n0 Q K h cells slots pc Ls (.int x :: st) :=
  Run.pure C (Or.inr trivial) (fun p e s m args below meth c hx hby hown hZ T locs X eT target k => by subst hp; exact XS.ineg X.here hx rfl (hb hby hd) rfl k) r
theorem r_lneg (C : Ctx l R Z own nm code maxL ret fl n0 kz K) {x : Int64} (hd : decode code pc = .ok (.lneg, 1)) (hp : pc + 1 = pc') (r : Run l R n0 Q K h cells slots pc' Ls (.long (-x) :: st)) : Run l R n0 Q K h cells slots pc Ls (.long x :: st) :=
  Run.pure C (Or.inr trivial) (fun p e s m args below meth c hx hby hown hZ T locs X eT target k => by subst hp; exact XT.lneg X.here hx rfl (hb hby hd) rfl k) r
theorem r_i2l (C : Ctx l R Z own nm code maxL ret fl n0 kz K) {x : Int32} (hd : decode code pc = .ok (.i2l, 1)) (hp : pc + 1 = pc') (r : Run l R n0 Q K h cells slots pc' Ls (.long (x.toInt64) :: st)) : Run l R n0 Q K h cells slots pc Ls (.int x :: st) :=
  Run.pure C (Or.inr trivial) (fun p e s m args below meth c hx hby hown hZ T locs X eT target k => by subst hp; exact XT.i2l X.here hx rfl (hb hby hd) rfl k) r
theorem r_l2i (C : Ctx l R Z own nm code maxL ret fl n0 kz K) {x : Int64} (hd : decode code pc = .ok (.l2i, 1)) (hp : pc + 1 = pc') (r : Run l R n0 Q K h cells slots pc' Ls (.int (x.toInt32) :: st)) : Run l R n0 Q K h cells slots pc Ls (.long x :: st) :=
  Run.pure C (Or.inr trivial) (fun p e s m args below meth c hx hby hown hZ T locs X eT target k => by subst hp; exact XT.l2i X.here hx rfl (hb hby hd) rfl k) r
theorem r_i2b (C : Ctx l R Z own nm code maxL ret fl n0 kz K) {x : Int32} (hd : decode code pc = .ok (.i2b, 1)) (hp : pc + 1 = pc') (r : Run l R n0 Q K h cells slots pc' Ls (.int (x.toInt8.toInt32) :: st)) : Run l R n0 Q K h cells slots pc Ls (.int x :: st) :=
  Run.pure C (Or.inr trivial) (fun p e s m args below meth c hx hby hown hZ T locs X eT target k => by subst hp; exact XT.i2b X.here hx rfl (hb hby hd) rfl k) r
theorem r_i2c (C : Ctx l R Z own nm code maxL ret fl n0 kz K) {x : Int32} (hd : decode code pc = .ok (.i2c, 1)) (hp : pc + 1 = pc') (r : Run l R n0 Q K h cells slots pc' Ls (.int (x.toUInt32.toUInt16.toUInt32.toInt32) :: st)) : Run l R n0 Q K h cells slots pc Ls (.int x :: st) :=
  Run.pure C (Or.inr trivial) (fun p e s m args below meth c hx hby hown hZ T locs X eT target k => by subst hp; exact XT.i2c X.here hx rfl (hb hby hd) rfl k) r
theorem r_i2s (C : Ctx l R Z own nm code maxL ret fl n0 kz K) {x : Int32} (hd : decode code pc = .ok (.i2s, 1)) (hp : pc + 1 = pc') (r : Run l R n0 Q K h cells slots pc' Ls (.int (x.toInt16.toInt32) :: st)) : Run l R n0 Q K h cells slots pc Ls (.int x :: st) :=
  Run.pure C (Or.inr trivial) (fun p e s m args below meth c hx hby hown hZ T locs X eT target k => by subst hp; exact XT.i2s X.here hx rfl (hb hby hd) rfl k) r
theorem r_dup (C : Ctx l R Z own nm code maxL ret fl n0 kz K) {x : Value} (hd : decode code pc = .ok (.dup, 1)) (hp : pc + 1 = pc') (hc : x.category = 1) (r : Run l R n0 Q K h cells slots pc' Ls (x :: x :: st)) : Run l R n0 Q K h cells slots pc Ls (x :: st) :=
  Run.pure C (Or.inr trivial) (fun p e s m args below meth c hx hby hown hZ T locs X eT target k => by subst hp; exact XS.dup X.here hx rfl (hb hby hd) rfl hc k) r
theorem r_pop (C : Ctx l R Z own nm code maxL ret fl n0 kz K) {x : Value} (hd : decode code pc = .ok (.pop, 1)) (hp : pc + 1 = pc') (hc : x.category = 1) (r : Run l R n0 Q K h cells slots pc' Ls (st)) : Run l R n0 Q K h cells slots pc Ls (x :: st) :=
  Run.pure C (Or.inr trivial) (fun p e s m args below meth c hx hby hown hZ T locs X eT target k => by subst hp; exact XT.pop X.here hx rfl (hb hby hd) rfl hc k) r
theorem r_dup_x1 (C : Ctx l R Z own nm code maxL ret fl n0 kz K) {x y : Value} (hd : decode code pc = .ok (.dup_x1, 1)) (hp : pc + 1 = pc') (hc : x.category = 1) (hc' : y.category = 1) (r : Run l R n0 Q K h cells slots pc' Ls (x :: y :: x :: st)) : Run l R n0 Q K h cells slots pc Ls (x :: y :: st) :=
  Run.pure C (Or.inr trivial) (fun p e s m args below meth c hx hby hown hZ T locs X eT target k => by subst hp; exact XT.dupX1 X.here hx rfl (hb hby hd) rfl hc hc' k) r
theorem r_dup2 (C : Ctx l R Z own nm code maxL ret fl n0 kz K) {x y : Value} (hd : decode code pc = .ok (.dup2, 1)) (hp : pc + 1 = pc') (hc : x.category = 1) (hc' : y.category = 1) (r : Run l R n0 Q K h cells slots pc' Ls (x :: y :: x :: y :: st)) : Run l R n0 Q K h cells slots pc Ls (x :: y :: st) :=
  Run.pure C (Or.inr trivial) (fun p e s m args below meth c hx hby hown hZ T locs X eT target k => by subst hp; exact XT.dup2 X.here hx rfl (hb hby hd) rfl hc hc' k) r
theorem r_dup2L (C : Ctx l R Z own nm code maxL ret fl n0 kz K) {x : Int64} (hd : decode code pc = .ok (.dup2, 1)) (hp : pc + 1 = pc') (r : Run l R n0 Q K h cells slots pc' Ls (.long x :: .long x :: st)) : Run l R n0 Q K h cells slots pc Ls (.long x :: st) :=
  Run.pure C (Or.inr trivial) (fun p e s m args below meth c hx hby hown hZ T locs X eT target k => by subst hp; exact XT.dup2L X.here hx rfl (hb hby hd) rfl k) r
theorem r_iinc (C : Ctx l R Z own nm code maxL ret fl n0 kz K) {k : Nat} {cst : Int} {x v : Int32} (hd : decode code pc = .ok (.iinc k cst, 3)) (hp : pc + 3 = pc') (hv : Int32.ofInt cst = v) (hl : Ls[k]? = some (.val (.int x))) (hl' : storeLocals Ls k (.int (x + v)) = some Ls') (r : Run l R n0 Q K h cells slots pc' Ls' (st)) : Run l R n0 Q K h cells slots pc Ls (st) :=
  Run.pure C (Or.inr trivial) (fun p e s m args below meth c hx hby hown hZ T locs X eT target k => by subst hp; exact XT.iincV X.here hx rfl v (hb hby hd) hv hl hl' k) r
theorem r_goto (C : Ctx l R Z own nm code maxL ret fl n0 kz K) {o : Int} (hd : decode code pc = .ok (.goto o, 3)) (ho : 0 ≤ (pc : Int) + o) (hp : ((pc : Int) + o).toNat = pc') (r : Run l R n0 Q K h cells slots pc' Ls (st)) : Run l R n0 Q K h cells slots pc Ls (st) :=
  Run.pure C (Or.inr trivial) (fun p e s m args below meth c hx hby hown hZ T locs X eT target k => by exact XS.goto X.here hx rfl (pc0 := pc) rfl (hb hby hd) ho hp k) r
theorem r_icmp_eq_t (C : Ctx l R Z own nm code maxL ret fl n0 kz K) {o : Int} {x y : Int32} (hd : decode code pc = .ok (.if_icmp .eq o, 3)) (ho : 0 ≤ (pc : Int) + o) (hp : ((pc : Int) + o).toNat = pc') (q : x = y) (r : Run l R n0 Q K h cells slots pc' Ls (st)) : Run l R n0 Q K h cells slots pc Ls (.int y :: .int x :: st) :=
  Run.pure C (Or.inr trivial) (fun p e s m args below meth c hx hby hown hZ T locs X eT target k => by exact XS.icmpYes X.here hx rfl (pc0 := pc) rfl (hb hby hd) rfl (XT.ii_eq_t q) ho hp k) r
theorem r_icmp_eq_f (C : Ctx l R Z own nm code maxL ret fl n0 kz K) {o : Int} {x y : Int32} (hd : decode code pc = .ok (.if_icmp .eq o, 3)) (hp : pc + 3 = pc') (q : ¬ x = y) (r : Run l R n0 Q K h cells slots pc' Ls (st)) : Run l R n0 Q K h cells slots pc Ls (.int y :: .int x :: st) :=
  Run.pure C (Or.inr trivial) (fun p e s m args below meth c hx hby hown hZ T locs X eT target k => by subst hp; exact XS.icmpNo X.here hx rfl (hb hby hd) rfl (XT.ii_eq_f q) k) r
theorem r_icmp_eq (C : Ctx l R Z own nm code maxL ret fl n0 kz K) {o : Int} {pt : Nat} {x y : Int32} (hd : decode code pc = .ok (.if_icmp .eq o, 3)) (ho : 0 ≤ (pc : Int) + o) (hp : ((pc : Int) + o).toNat = pt) (hp' : pc + 3 = pc') (rt : x = y → Run l R n0 Q K h cells slots pt Ls st) (rf : ¬ x = y → Run l R n0 Q K h cells slots pc' Ls st) : Run l R n0 Q K h cells slots pc Ls (.int y :: .int x :: st) := by
  by_cases q : x = y
  · exact r_icmp_eq_t C hd ho hp q (rt q)
  · exact r_icmp_eq_f C hd hp' q (rf q)
theorem r_if_eq_t (C : Ctx l R Z own nm code maxL ret fl n0 kz K) {o : Int} {x : Int32} (hd : decode code pc = .ok (.ifCond .eq o, 3)) (ho : 0 ≤ (pc : Int) + o) (hp : ((pc : Int) + o).toNat = pc') (q : x = 0) (r : Run l R n0 Q K h cells slots pc' Ls (st)) : Run l R n0 Q K h cells slots pc Ls (.int x :: st) :=
  Run.pure C (Or.inr trivial) (fun p e s m args below meth c hx hby hown hZ T locs X eT target k => by exact XS.ifYes X.here hx rfl (pc0 := pc) rfl (hb hby hd) rfl (XT.i0_eq_t q) ho hp k) r
theorem r_if_eq_f (C : Ctx l R Z own nm code maxL ret fl n0 kz K) {o : Int} {x : Int32} (hd : decode code pc = .ok (.ifCond .eq o, 3)) (hp : pc + 3 = pc') (q : ¬ x = 0) (r : Run l R n0 Q K h cells slots pc' Ls (st)) : Run l R n0 Q K h cells slots pc Ls (.int x :: st) :=
  Run.pure C (Or.inr trivial) (fun p e s m args below meth c hx hby hown hZ T locs X eT target k => by subst hp; exact XS.ifNo X.here hx rfl (hb hby hd) rfl (XT.i0_eq_f q) k) r
theorem r_if_eq (C : Ctx l R Z own nm code maxL ret fl n0 kz K) {o : Int} {pt : Nat} {x : Int32} (hd : decode code pc = .ok (.ifCond .eq o, 3)) (ho : 0 ≤ (pc : Int) + o) (hp : ((pc : Int) + o).toNat = pt) (hp' : pc + 3 = pc') (rt : x = 0 → Run l R n0 Q K h cells slots pt Ls st) (rf : ¬ x = 0 → Run l R n0 Q K h cells slots pc' Ls st) : Run l R n0 Q K h cells slots pc Ls (.int x :: st) := by
  by_cases q : x = 0
  · exact r_if_eq_t C hd ho hp q (rt q)
  · exact r_if_eq_f C hd hp' q (rf q)
theorem r_lcmp_eq (C : Ctx l R Z own nm code maxL ret fl n0 kz K) {o : Int} {pt : Nat} {x y : Int64} (hd : decode code pc = .ok (.lcmp, 1)) (hd2 : decode code (pc + 1) = .ok (.ifCond .eq o, 3)) (ho : 0 ≤ ((pc + 1 : Nat) : Int) + o) (hp : (((pc + 1 : Nat) : Int) + o).toNat = pt) (hp' : pc + 4 = pc') (rt : x = y → Run l R n0 Q K h cells slots pt Ls st) (rf : ¬ x = y → Run l R n0 Q K h cells slots pc' Ls st) : Run l R n0 Q K h cells slots pc Ls (.long y :: .long x :: st) := by
  by_cases q : x = y
  · exact Run.pure C (Or.inr trivial) (fun p e s m args below meth c hx hby hown hZ T locs X eT target k => XT.lcmp X.here hx rfl (hb hby hd) rfl (XS.ifYes X.here hx rfl (pc0 := pc + 1) rfl (hb hby hd2) rfl (XT.ll_eq_t q) ho hp k)) (rt q)
  · subst hp'; exact Run.pure C (Or.inr trivial) (fun p e s m args below meth c hx hby hown hZ T locs X eT target k => XT.lcmp X.here hx rfl (hb hby hd) rfl (XS.ifNo X.here hx rfl (hb hby hd2) rfl (XT.ll_eq_f q) k)) (rf q)
theorem r_icmp_ne_t (C : Ctx l R Z own nm code maxL ret fl n0 kz K) {o : Int} {x y : Int32} (hd : decode code pc = .ok (.if_icmp .ne o, 3)) (ho : 0 ≤ (pc : Int) + o) (hp : ((pc : Int) + o).toNat = pc') (q : ¬ x = y) (r : Run l R n0 Q K h cells slots pc' Ls (st)) : Run l R n0 Q K h cells slots pc Ls (.int y :: .int x :: st) :=
  Run.pure C (Or.inr trivial) (fun p e s m args below meth c hx hby hown hZ T locs X eT target k => by exact XS.icmpYes X.here hx rfl (pc0 := pc) rfl (hb hby hd) rfl (XT.ii_ne_t q) ho hp k) r
theorem r_icmp_ne_f (C : Ctx l R Z own nm code maxL ret fl n0 kz K) {o : Int} {x y : Int32} (hd : decode code pc = .ok (.if_icmp .ne o, 3)) (hp : pc + 3 = pc') (q : x = y) (r : Run l R n0 Q K h cells slots pc' Ls (st)) : Run l R n0 Q K h cells slots pc Ls (.int y :: .int x :: st) :=
  Run.pure C (Or.inr trivial) (fun p e s m args below meth c hx hby hown hZ T locs X eT target k => by subst hp; exact XS.icmpNo X.here hx rfl (hb hby hd) rfl (XT.ii_ne_f q) k) r
theorem r_icmp_ne (C : Ctx l R Z own nm code maxL ret fl n0 kz K) {o : Int} {pt : Nat} {x y : Int32} (hd : decode code pc = .ok (.if_icmp .ne o, 3)) (ho : 0 ≤ (pc : Int) + o) (hp : ((pc : Int) + o).toNat = pt) (hp' : pc + 3 = pc') (rt : ¬ x = y → Run l R n0 Q K h cells slots pt Ls st) (rf : x = y → Run l R n0 Q K h cells slots pc' Ls st) : Run l R n0 Q K h cells slots pc Ls (.int y :: .int x :: st) := by
  by_cases q : x = y
  · exact r_icmp_ne_f C hd hp' q (rf q)
  · exact r_icmp_ne_t C hd ho hp q (rt q)
theorem r_if_ne_t (C : Ctx l R Z own nm code maxL ret fl n0 kz K) {o : Int} {x : Int32} (hd : decode code pc = .ok (.ifCond .ne o, 3)) (ho : 0 ≤ (pc : Int) + o) (hp : ((pc : Int) + o).toNat = pc') (q : ¬ x = 0) (r : Run l R n0 Q K h cells slots pc' Ls (st)) : Run l R n0 Q K h cells slots pc Ls (.int x :: st) :=
  Run.pure C (Or.inr trivial) (fun p e s m args below meth c hx hby hown hZ T locs X eT target k => by exact XS.ifYes X.here hx rfl (pc0 := pc) rfl (hb hby hd) rfl (XT.i0_ne_t q) ho hp k) r
theorem r_if_ne_f (C : Ctx l R Z own nm code maxL ret fl n0 kz K) {o : Int} {x : Int32} (hd : decode code pc = .ok (.ifCond .ne o, 3)) (hp : pc + 3 = pc') (q : x = 0) (r : Run l R n0 Q K h cells slots pc' Ls (st)) : Run l R n0 Q K h cells slots pc Ls (.int x :: st) :=
  Run.pure C (Or.inr trivial) (fun p e s m args below meth c hx hby hown hZ T locs X eT target k => by subst hp; exact XS.ifNo X.here hx rfl (hb hby hd) rfl (XT.i0_ne_f q) k) r
theorem r_if_ne (C : Ctx l R Z own nm code maxL ret fl n0 kz K) {o : Int} {pt : Nat} {x : Int32} (hd : decode code pc = .ok (.ifCond .ne o, 3)) (ho : 0 ≤ (pc : Int) + o) (hp : ((pc : Int) + o).toNat = pt) (hp' : pc + 3 = pc') (rt : ¬ x = 0 → Run l R n0 Q K h cells slots pt Ls st) (rf : x = 0 → Run l R n0 Q K h cells slots pc' Ls st) : Run l R n0 Q K h cells slots pc Ls (.int x :: st) := by
  by_cases q : x = 0
  · exact r_if_ne_f C hd hp' q (rf q)
  · exact r_if_ne_t C hd ho hp q (rt q)
theorem r_lcmp_ne (C : Ctx l R Z own nm code maxL ret fl n0 kz K) {o : Int} {pt : Nat} {x y : Int64} (hd : decode code pc = .ok (.lcmp, 1)) (hd2 : decode code (pc + 1) = .ok (.ifCond .ne o, 3)) (ho : 0 ≤ ((pc + 1 : Nat) : Int) + o) (hp : (((pc + 1 : Nat) : Int) + o).toNat = pt) (hp' : pc + 4 = pc') (rt : ¬ x = y → Run l R n0 Q K h cells slots pt Ls st) (rf : x = y → Run l R n0 Q K h cells slots pc' Ls st) : Run l R n0 Q K h cells slots pc Ls (.long y :: .long x :: st) := by
  by_cases q : x = y
  · subst hp'; exact Run.pure C (Or.inr trivial) (fun p e s m args below meth c hx hby hown hZ T locs X eT target k => XT.lcmp X.here hx rfl (hb hby hd) rfl (XS.ifNo X.here hx rfl (hb hby hd2) rfl (XT.ll_ne_f q) k)) (rf q)
  · exact Run.pure C (Or.inr trivial) (fun p e s m args below meth c hx hby hown hZ T locs X eT target k => XT.lcmp X.here hx rfl (hb hby hd) rfl (XS.ifYes X.here hx rfl (pc0 := pc + 1) rfl (hb hby hd2) rfl (XT.ll_ne_t q) ho hp k)) (rt q)
theorem r_icmp_lt_t (C : Ctx l R Z own nm code maxL ret fl n0 kz K) {o : Int} {x y : Int32} (hd : decode code pc = .ok (.if_icmp .lt o, 3)) (ho : 0 ≤ (pc : Int) + o) (hp : ((pc : Int) + o).toNat = pc') (q : x < y) (r : Run l R n0 Q K h cells slots pc' Ls (st)) : Run l R n0 Q K h cells slots pc Ls (.int y :: .int x :: st) :=
  Run.pure C (Or.inr trivial) (fun p e s m args below meth c hx hby hown hZ T locs X eT target k => by exact XS.icmpYes X.here hx rfl (pc0 := pc) rfl (hb hby hd) rfl (XT.ii_lt_t q) ho hp k) r
theorem r_icmp_lt_f (C : Ctx l R Z own nm code maxL ret fl n0 kz K) {o : Int} {x y : Int32} (hd : decode code pc = .ok (.if_icmp .lt o, 3)) (hp : pc + 3 = pc') (q : ¬ x < y) (r : Run l R n0 Q K h cells slots pc' Ls (st)) : Run l R n0 Q K h cells slots pc Ls (.int y :: .int x :: st) :=
  Run.pure C (Or.inr trivial) (fun p e s m args below meth c hx hby hown hZ T locs X eT target k => by subst hp; exact XS.icmpNo X.here hx rfl (hb hby hd) rfl (XT.ii_lt_f q) k) r
theorem r_icmp_lt (C : Ctx l R Z own nm code maxL ret fl n0 kz K) {o : Int} {pt : Nat} {x y : Int32} (hd : decode code pc = .ok (.if_icmp .lt o, 3)) (ho : 0 ≤ (pc : Int) + o) (hp : ((pc : Int) + o).toNat = pt) (hp' : pc + 3 = pc') (rt : x < y → Run l R n0 Q K h cells slots pt Ls st) (rf : ¬ x < y → Run l R n0 Q K h cells slots pc' Ls st) : Run l R n0 Q K h cells slots pc Ls (.int y :: .int x :: st) := by
  by_cases q : x < y
  · exact r_icmp_lt_t C hd ho hp q (rt q)
  · exact r_icmp_lt_f C hd hp' q (rf q)
theorem r_if_lt_t (C : Ctx l R Z own nm code maxL ret fl n0 kz K) {o : Int} {x : Int32} (hd : decode code pc = .ok (.ifCond .lt o, 3)) (ho : 0 ≤ (pc : Int) + o) (hp : ((pc : Int) + o).toNat = pc') (q : x < 0) (r : Run l R n0 Q K h cells slots pc' Ls (st)) : Run l R n0 Q K h cells slots pc Ls (.int x :: st) :=
  Run.pure C (Or.inr trivial) (fun p e s m args below meth c hx hby hown hZ T locs X eT target k => by exact XS.ifYes X.here hx rfl (pc0 := pc) rfl (hb hby hd) rfl (XT.i0_lt_t q) ho hp k) r
theorem r_if_lt_f (C : Ctx l R Z own nm code maxL ret fl n0 kz K) {o : Int} {x : Int32} (hd : decode code pc = .ok (.ifCond .lt o, 3)) (hp : pc + 3 = pc') (q : ¬ x < 0) (r : Run l R n0 Q K h cells slots pc' Ls (st)) : Run l R n0 Q K h cells slots pc Ls (.int x :: st) :=
  Run.pure C (Or.inr trivial) (fun p e s m args below meth c hx hby hown hZ T locs X eT target k => by subst hp; exact XS.ifNo X.here hx rfl (hb hby hd) rfl (XT.i0_lt_f q) k) r
theorem r_if_lt (C : Ctx l R Z own nm code maxL ret fl n0 kz K) {o : Int} {pt : Nat} {x : Int32} (hd : decode code pc = .ok (.ifCond .lt o, 3)) (ho : 0 ≤ (pc : Int) + o) (hp : ((pc : Int) + o).toNat = pt) (hp' : pc + 3 = pc') (rt : x < 0 → Run l R n0 Q K h cells slots pt Ls st) (rf : ¬ x < 0 → Run l R n0 Q K h cells slots pc' Ls st) : Run l R n0 Q K h cells slots pc Ls (.int x :: st) := by
  by_cases q : x < 0
  · exact r_if_lt_t C hd ho hp q (rt q)
  · exact r_if_lt_f C hd hp' q (rf q)
theorem r_lcmp_lt (C : Ctx l R Z own nm code maxL ret fl n0 kz K) {o : Int} {pt : Nat} {x y : Int64} (hd : decode code pc = .ok (.lcmp, 1)) (hd2 : decode code (pc + 1) = .ok (.ifCond .lt o, 3)) (ho : 0 ≤ ((pc + 1 : Nat) : Int) + o) (hp : (((pc + 1 : Nat) : Int) + o).toNat = pt) (hp' : pc + 4 = pc') (rt : x < y → Run l R n0 Q K h cells slots pt Ls st) (rf : ¬ x < y → Run l R n0 Q K h cells slots pc' Ls st) : Run l R n0 Q K h cells slots pc Ls (.long y :: .long x :: st) := by
  by_cases q : x < y
  · exact Run.pure C (Or.inr trivial) (fun p e s m args below meth c hx hby hown hZ T locs X eT target k => XT.lcmp X.here hx rfl (hb hby hd) rfl (XS.ifYes X.here hx rfl (pc0 := pc + 1) rfl (hb hby hd2) rfl (XT.ll_lt_t q) ho hp k)) (rt q)
  · subst hp'; exact Run.pure C (Or.inr trivial) (fun p e s m args below meth c hx hby hown hZ T locs X eT target k => XT.lcmp X.here hx rfl (hb hby hd) rfl (XS.ifNo X.here hx rfl (hb hby hd2) rfl (XT.ll_lt_f q) k)) (rf q)
theorem r_icmp_ge_t (C : Ctx l R Z own nm code maxL ret fl n0 kz K) {o : Int} {x y : Int32} (hd : decode code pc = .ok (.if_icmp .ge o, 3)) (ho : 0 ≤ (pc : Int) + o) (hp : ((pc : Int) + o).toNat = pc') (q : ¬ x < y) (r : Run l R n0 Q K h cells slots pc' Ls (st)) : Run l R n0 Q K h cells slots pc Ls (.int y :: .int x :: st) :=
  Run.pure C (Or.inr trivial) (fun p e s m args below meth c hx hby hown hZ T locs X eT target k => by exact XS.icmpYes X.here hx rfl (pc0 := pc) rfl (hb hby hd) rfl (XT.ii_ge_t q) ho hp k) r
theorem r_icmp_ge_f (C : Ctx l R Z own nm code maxL ret fl n0 kz K) {o : Int} {x y : Int32} (hd : decode code pc = .ok (.if_icmp .ge o, 3)) (hp : pc + 3 = pc') (q : x < y) (r : Run l R n0 Q K h cells slots pc' Ls (st)) : Run l R n0 Q K h cells slots pc Ls (.int y :: .int x :: st) :=
  Run.pure C (Or.inr trivial) (fun p e s m args below meth c hx hby hown hZ T locs X eT target k => by subst hp; exact XS.icmpNo X.here hx rfl (hb hby hd) rfl (XT.ii_ge_f q) k) r
theorem r_icmp_ge (C : Ctx l R Z own nm code maxL ret fl n0 kz K) {o : Int} {pt : Nat} {x y : Int32} (hd : decode code pc = .ok (.if_icmp .ge o, 3)) (ho : 0 ≤ (pc : Int) + o) (hp : ((pc : Int) + o).toNat = pt) (hp' : pc + 3 = pc') (rt : ¬ x < y → Run l R n0 Q K h cells slots pt Ls st) (rf : x < y → Run l R n0 Q K h cells slots pc' Ls st) : Run l R n0 Q K h cells slots pc Ls (.int y :: .int x :: st) := by
  by_cases q : x < y
  · exact r_icmp_ge_f C hd hp' q (rf q)
  · exact r_icmp_ge_t C hd ho hp q (rt q)
theorem r_if_ge_t (C : Ctx l R Z own nm code maxL ret fl n0 kz K) {o : Int} {x : Int32} (hd : decode code pc = .ok (.ifCond .ge o, 3)) (ho : 0 ≤ (pc : Int) + o) (hp : ((pc : Int) + o).toNat = pc') (q : ¬ x < 0) (r : Run l R n0 Q K h cells slots pc' Ls (st)) : Run l R n0 Q K h cells slots pc Ls (.int x :: st) :=
  Run.pure C (Or.inr trivial) (fun p e s m args below meth c hx hby hown hZ T locs X eT target k => by exact XS.ifYes X.here hx rfl (pc0 := pc) rfl (hb hby hd) rfl (XT.i0_ge_t q) ho hp k) r
theorem r_if_ge_f (C : Ctx l R Z own nm code maxL ret fl n0 kz K) {o : Int} {x : Int32} (hd : decode code pc = .ok (.ifCond .ge o, 3)) (hp : pc + 3 = pc') (q : x < 0) (r : Run l R n0 Q K h cells slots pc' Ls (st)) : Run l R n0 Q K h cells slots pc Ls (.int x :: st) :=
  Run.pure C (Or.inr trivial) (fun p e s m args below meth c hx hby hown hZ T locs X eT target k => by subst hp; exact XS.ifNo X.here hx rfl (hb hby hd) rfl (XT.i0_ge_f q) k) r
theorem r_if_ge (C : Ctx l R Z own nm code maxL ret fl n0 kz K) {o : Int} {pt : Nat} {x : Int32} (hd : decode code pc = .ok (.ifCond .ge o, 3)) (ho : 0 ≤ (pc : Int) + o) (hp : ((pc : Int) + o).toNat = pt) (hp' : pc + 3 = pc') (rt : ¬ x < 0 → Run l R n0 Q K h cells slots pt Ls st) (rf : x < 0 → Run l R n0 Q K h cells slots pc' Ls st) : Run l R n0 Q K h cells slots pc Ls (.int x :: st) := by
  by_cases q : x < 0
  · exact r_if_ge_f C hd hp' q (rf q)
  · exact r_if_ge_t C hd ho hp q (rt q)
theorem r_lcmp_ge (C : Ctx l R Z own nm code maxL ret fl n0 kz K) {o : Int} {pt : Nat} {x y : Int64} (hd : decode code pc = .ok (.lcmp, 1)) (hd2 : decode code (pc + 1) = .ok (.ifCond .ge o, 3)) (ho : 0 ≤ ((pc + 1 : Nat) : Int) + o) (hp : (((pc + 1 : Nat) : Int) + o).toNat = pt) (hp' : pc + 4 = pc') (rt : ¬ x < y → Run l R n0 Q K h cells slots pt Ls st) (rf : x < y → Run l R n0 Q K h cells slots pc' Ls st) : Run l R n0 Q K h cells slots pc Ls (.long y :: .long x :: st) := by
  by_cases q : x < y
  · subst hp'; exact Run.pure C (Or.inr trivial) (fun p e s m args below meth c hx hby hown hZ T locs X eT target k => XT.lcmp X.here hx rfl (hb hby hd) rfl (XS.ifNo X.here hx rfl (hb hby hd2) rfl (XT.ll_ge_f q) k)) (rf q)
  · exact Run.pure C (Or.inr trivial) (fun p e s m args below meth c hx hby hown hZ T locs X eT target k => XT.lcmp X.here hx rfl (hb hby hd) rfl (XS.ifYes X.here hx rfl (pc0 := pc + 1) rfl (hb hby hd2) rfl (XT.ll_ge_t q) ho hp k)) (rt q)
theorem r_icmp_gt_t (C : Ctx l R Z own nm code maxL ret fl n0 kz K) {o : Int} {x y : Int32} (hd : decode code pc = .ok (.if_icmp .gt o, 3)) (ho : 0 ≤ (pc : Int) + o) (hp : ((pc : Int) + o).toNat = pc') (q : y < x) (r : Run l R n0 Q K h cells slots pc' Ls (st)) : Run l R n0 Q K h cells slots pc Ls (.int y :: .int x :: st) :=
  Run.pure C (Or.inr trivial) (fun p e s m args below meth c hx hby hown hZ T locs X eT target k => by exact XS.icmpYes X.here hx rfl (pc0 := pc) rfl (hb hby hd) rfl (XT.ii_gt_t q) ho hp k) r
theorem r_icmp_gt_f (C : Ctx l R Z own nm code maxL ret fl n0 kz K) {o : Int} {x y : Int32} (hd : decode code pc = .ok (.if_icmp .gt o, 3)) (hp : pc + 3 = pc') (q : ¬ y < x) (r : Run l R n0 Q K h cells slots pc' Ls (st)) : Run l R n0 Q K h cells slots pc Ls (.int y :: .int x :: st) :=
  Run.pure C (Or.inr trivial) (fun p e s m args below meth c hx hby hown hZ T locs X eT target k => by subst hp; exact XS.icmpNo X.here hx rfl (hb hby hd) rfl (XT.ii_gt_f q) k) r
theorem r_icmp_gt (C : Ctx l R Z own nm code maxL ret fl n0 kz K) {o : Int} {pt : Nat} {x y : Int32} (hd : decode code pc = .ok (.if_icmp .gt o, 3)) (ho : 0 ≤ (pc : Int) + o) (hp : ((pc : Int) + o).toNat = pt) (hp' : pc + 3 = pc') (rt : y < x → Run l R n0 Q K h cells slots pt Ls st) (rf : ¬ y < x → Run l R n0 Q K h cells slots pc' Ls st) : Run l R n0 Q K h cells slots pc Ls (.int y :: .int x :: st) := by
  by_cases q : y < x
  · exact r_icmp_gt_t C hd ho hp q (rt q)
  · exact r_icmp_gt_f C hd hp' q (rf q)
theorem r_if_gt_t (C : Ctx l R Z own nm code maxL ret fl n0 kz K) {o : Int} {x : Int32} (hd : decode code pc = .ok (.ifCond .gt o, 3)) (ho : 0 ≤ (pc : Int) + o) (hp : ((pc : Int) + o).toNat = pc') (q : 0 < x) (r : Run l R n0 Q K h cells slots pc' Ls (st)) : Run l R n0 Q K h cells slots pc Ls (.int x :: st) :=
  Run.pure C (Or.inr trivial) (fun p e s m args below meth c hx hby hown hZ T locs X eT target k => by exact XS.ifYes X.here hx rfl (pc0 := pc) rfl (hb hby hd) rfl (XT.i0_gt_t q) ho hp k) r
theorem r_if_gt_f (C : Ctx l R Z own nm code maxL ret fl n0 kz K) {o : Int} {x : Int32} (hd : decode code pc = .ok (.ifCond .gt o, 3)) (hp : pc + 3 = pc') (q : ¬ 0 < x) (r : Run l R n0 Q K h cells slots pc' Ls (st)) : Run l R n0 Q K h cells slots pc Ls (.int x :: st) :=
  Run.pure C (Or.inr trivial) (fun p e s m args below meth c hx hby hown hZ T locs X eT target k => by subst hp; exact XS.ifNo X.here hx rfl (hb hby hd) rfl (XT.i0_gt_f q) k) r
theorem r_if_gt (C : Ctx l R Z own nm code maxL ret fl n0 kz K) {o : Int} {pt : Nat} {x : Int32} (hd : decode code pc = .ok (.ifCond .gt o, 3)) (ho : 0 ≤ (pc : Int) + o) (hp : ((pc : Int) + o).toNat = pt) (hp' : pc + 3 = pc') (rt : 0 < x → Run l R n0 Q K h cells slots pt Ls st) (rf : ¬ 0 < x → Run l R n0 Q K h cells slots pc' Ls st) : Run l R n0 Q K h cells slots pc Ls (.int x :: st) := by
  by_cases q : 0 < x
  · exact r_if_gt_t C hd ho hp q (rt q)
  · exact r_if_gt_f C hd hp' q (rf q)
theorem r_lcmp_gt (C : Ctx l R Z own nm code maxL ret fl n0 kz K) {o : Int} {pt : Nat} {x y : Int64} (hd : decode code pc = .ok (.lcmp, 1)) (hd2 : decode code (pc + 1) = .ok (.ifCond .gt o, 3)) (ho : 0 ≤ ((pc + 1 : Nat) : Int) + o) (hp : (((pc + 1 : Nat) : Int) + o).toNat = pt) (hp' : pc + 4 = pc') (rt : y < x → Run l R n0 Q K h cells slots pt Ls st) (rf : ¬ y < x → Run l R n0 Q K h cells slots pc' Ls st) : Run l R n0 Q K h cells slots pc Ls (.long y :: .long x :: st) := by
  by_cases q : y < x
  · exact Run.pure C (Or.inr trivial) (fun p e s m args below meth c hx hby hown hZ T locs X eT target k => XT.lcmp X.here hx rfl (hb hby hd) rfl (XS.ifYes X.here hx rfl (pc0 := pc + 1) rfl (hb hby hd2) rfl (XT.ll_gt_t q) ho hp k)) (rt q)
  · subst hp'; exact Run.pure C (Or.inr trivial) (fun p e s m args below meth c hx hby hown hZ T locs X eT target k => XT.lcmp X.here hx rfl (hb hby hd) rfl (XS.ifNo X.here hx rfl (hb hby hd2) rfl (XT.ll_gt_f q) k)) (rf q)
theorem r_icmp_le_t (C : Ctx l R Z own nm code maxL ret fl n0 kz K) {o : Int} {x y : Int32} (hd : decode code pc = .ok (.if_icmp .le o, 3)) (ho : 0 ≤ (pc : Int) + o) (hp : ((pc : Int) + o).toNat = pc') (q : ¬ y < x) (r : Run l R n0 Q K h cells slots pc' Ls (st)) : Run l R n0 Q K h cells slots pc Ls (.int y :: .int x :: st) :=
  Run.pure C (Or.inr trivial) (fun p e s m args below meth c hx hby hown hZ T locs X eT target k => by exact XS.icmpYes X.here hx rfl (pc0 := pc) rfl (hb hby hd) rfl (XT.ii_le_t q) ho hp k) r
theorem r_icmp_le_f (C : Ctx l R Z own nm code maxL ret fl n0 kz K) {o : Int} {x y : Int32} (hd : decode code pc = .ok (.if_icmp .le o, 3)) (hp : pc + 3 = pc') (q : y < x) (r : Run l R n0 Q K h cells slots pc' Ls (st)) : Run l R n0 Q K h cells slots pc Ls (.int y :: .int x :: st) :=
  Run.pure C (Or.inr trivial) (fun p e s m args below meth c hx hby hown hZ T locs X eT target k => by subst hp; exact XS.icmpNo X.here hx rfl (hb hby hd) rfl (XT.ii_le_f q) k) r
theorem r_icmp_le (C : Ctx l R Z own nm code maxL ret fl n0 kz K) {o : Int} {pt : Nat} {x y : Int32} (hd : decode code pc = .ok (.if_icmp .le o, 3)) (ho : 0 ≤ (pc : Int) + o) (hp : ((pc : Int) + o).toNat = pt) (hp' : pc + 3 = pc') (rt : ¬ y < x → Run l R n0 Q K h cells slots pt Ls st) (rf : y < x → Run l R n0 Q K h cells slots pc' Ls st) : Run l R n0 Q K h cells slots pc Ls (.int y :: .int x :: st) := by
  by_cases q : y < x
  · exact r_icmp_le_f C hd hp' q (rf q)
  · exact r_icmp_le_t C hd ho hp q (rt q)
theorem r_if_le_t (C : Ctx l R Z own nm code maxL ret fl n0 kz K) {o : Int} {x : Int32} (hd : decode code pc = .ok (.ifCond .le o, 3)) (ho : 0 ≤ (pc : Int) + o) (hp : ((pc : Int) + o).toNat = pc') (q : ¬ 0 < x) (r : Run l R n0 Q K h cells slots pc' Ls (st)) : Run l R n0 Q K h cells slots pc Ls (.int x :: st) :=
  Run.pure C (Or.inr trivial) (fun p e s m args below meth c hx hby hown hZ T locs X eT target k => by exact XS.ifYes X.here hx rfl (pc0 := pc) rfl (hb hby hd) rfl (XT.i0_le_t q) ho hp k) r
theorem r_if_le_f (C : Ctx l R Z own nm code maxL ret fl n0 kz K) {o : Int} {x : Int32} (hd : decode code pc = .ok (.ifCond .le o, 3)) (hp : pc + 3 = pc') (q : 0 < x) (r : Run l R n0 Q K h cells slots pc' Ls (st)) : Run l R n0 Q K h cells slots pc Ls (.int x :: st) :=
  Run.pure C (Or.inr trivial) (fun p e s m args below meth c hx hby hown hZ T locs X eT target k => by subst hp; exact XS.ifNo X.here hx rfl (hb hby hd) rfl (XT.i0_le_f q) k) r
theorem r_if_le (C : Ctx l R Z own nm code maxL ret fl n0 kz K) {o : Int} {pt : Nat} {x : Int32} (hd : decode code pc = .ok (.ifCond .le o, 3)) (ho : 0 ≤ (pc : Int) + o) (hp : ((pc : Int) + o).toNat = pt) (hp' : pc + 3 = pc') (rt : ¬ 0 < x → Run l R n0 Q K h cells slots pt Ls st) (rf : 0 < x → Run l R n0 Q K h cells slots pc' Ls st) : Run l R n0 Q K h cells slots pc Ls (.int x :: st) := by
  by_cases q : 0 < x
  · exact r_if_le_f C hd hp' q (rf q)
  · exact r_if_le_t C hd ho hp q (rt q)
theorem r_lcmp_le (C : Ctx l R Z own nm code maxL ret fl n0 kz K) {o : Int} {pt : Nat} {x y : Int64} (hd : decode code pc = .ok (.lcmp, 1)) (hd2 : decode code (pc + 1) = .ok (.ifCond .le o, 3)) (ho : 0 ≤ ((pc + 1 : Nat) : Int) + o) (hp : (((pc + 1 : Nat) : Int) + o).toNat = pt) (hp' : pc + 4 = pc') (rt : ¬ y < x → Run l R n0 Q K h cells slots pt Ls st) (rf : y < x → Run l R n0 Q K h cells slots pc' Ls st) : Run l R n0 Q K h cells slots pc Ls (.long y :: .long x :: st) := by
  by_cases q : y < x
  · subst hp'; exact Run.pure C (Or.inr trivial) (fun p e s m args below meth c hx hby hown hZ T locs X eT target k => XT.lcmp X.here hx rfl (hb hby hd) rfl (XS.ifNo X.here hx rfl (hb hby hd2) rfl (XT.ll_le_f q) k)) (rf q)
  · exact Run.pure C (Or.inr trivial) (fun p e s m args below meth c hx hby hown hZ T locs X eT target k => XT.lcmp X.here hx rfl (hb hby hd) rfl (XS.ifYes X.here hx rfl (pc0 := pc + 1) rfl (hb hby hd2) rfl (XT.ll_le_t q) ho hp k)) (rt q)
theorem r_ifnull_t (C : Ctx l R Z own nm code maxL ret fl n0 kz K) {o : Int} {v : Value} (hd : decode code pc = .ok (.ifnull o, 3)) (ho : 0 ≤ (pc : Int) + o) (hp : ((pc : Int) + o).toNat = pc') (hv : v.isRef = true) (q : v = .null) (r : Run l R n0 Q K h cells slots pc' Ls (st)) : Run l R n0 Q K h cells slots pc Ls (v :: st) :=
  Run.pure C (Or.inr trivial) (fun p e s m args below meth c hx hby hown hZ T locs X eT target k => by exact XT.nullYes X.here hx rfl (pc0 := pc) rfl (hb hby hd) rfl q ho hp k) r
theorem r_ifnull_f (C : Ctx l R Z own nm code maxL ret fl n0 kz K) {o : Int} {v : Value} (hd : decode code pc = .ok (.ifnull o, 3)) (hp : pc + 3 = pc') (hv : v.isRef = true) (q : ¬ v = .null) (r : Run l R n0 Q K h cells slots pc' Ls (st)) : Run l R n0 Q K h cells slots pc Ls (v :: st) :=
  Run.pure C (Or.inr trivial) (fun p e s m args below meth c hx hby hown hZ T locs X eT target k => by subst hp; exact XT.nullNo X.here hx rfl (hb hby hd) rfl hv q k) r
theorem r_ifnonnull_t (C : Ctx l R Z own nm code maxL ret fl n0 kz K) {o : Int} {v : Value} (hd : decode code pc = .ok (.ifnonnull o, 3)) (ho : 0 ≤ (pc : Int) + o) (hp : ((pc : Int) + o).toNat = pc') (hv : v.isRef = true) (q : ¬ v = .null) (r : Run l R n0 Q K h cells slots pc' Ls (st)) : Run l R n0 Q K h cells slots pc Ls (v :: st) :=
  Run.pure C (Or.inr trivial) (fun p e s m args below meth c hx hby hown hZ T locs X eT target k => by exact XT.nonnullYes X.here hx rfl (pc0 := pc) rfl (hb hby hd) rfl hv q ho hp k) r
theorem r_ifnonnull_f (C : Ctx l R Z own nm code maxL ret fl n0 kz K) {o : Int} {v : Value} (hd : decode code pc = .ok (.ifnonnull o, 3)) (hp : pc + 3 = pc') (hv : v.isRef = true) (q : v = .null) (r : Run l R n0 Q K h cells slots pc' Ls (st)) : Run l R n0 Q K h cells slots pc Ls (v :: st) :=
  Run.pure C (Or.inr trivial) (fun p e s m args below meth c hx hby hown hZ T locs X eT target k => by subst hp; exact XT.nonnullNo X.here hx rfl (hb hby hd) rfl q k) r
theorem r_acmp_eq_t (C : Ctx l R Z own nm code maxL ret fl n0 kz K) {o : Int} {x y : Value} (hd : decode code pc = .ok (.if_acmp .eq o, 3)) (ho : 0 ≤ (pc : Int) + o) (hp : ((pc : Int) + o).toNat = pc') (hvx : x.isRef = true) (hvy : y.isRef = true) (q : x = y) (r : Run l R n0 Q K h cells slots pc' Ls (st)) : Run l R n0 Q K h cells slots pc Ls (y :: x :: st) :=
  Run.pure C (Or.inr trivial) (fun p e s m args below meth c hx hby hown hZ T locs X eT target k => by exact XT.acmpYes X.here hx rfl (pc0 := pc) rfl (hb hby hd) rfl hvx hvy (XT.aa_eq_t q) ho hp k) r
theorem r_acmp_eq_f (C : Ctx l R Z own nm code maxL ret fl n0 kz K) {o : Int} {x y : Value} (hd : decode code pc = .ok (.if_acmp .eq o, 3)) (hp : pc + 3 = pc') (hvx : x.isRef = true) (hvy : y.isRef = true) (q : ¬ x = y) (r : Run l R n0 Q K h cells slots pc' Ls (st)) : Run l R n0 Q K h cells slots pc Ls (y :: x :: st) :=
  Run.pure C (Or.inr trivial) (fun p e s m args below meth c hx hby hown hZ T locs X eT target k => by subst hp; exact XT.acmpNo X.here hx rfl (hb hby hd) rfl hvx hvy (XT.aa_eq_f q) k) r
theorem r_acmp_ne_t (C : Ctx l R Z own nm code maxL ret fl n0 kz K) {o : Int} {x y : Value} (hd : decode code pc = .ok (.if_acmp .ne o, 3)) (ho : 0 ≤ (pc : Int) + o) (hp : ((pc : Int) + o).toNat = pc') (hvx : x.isRef = true) (hvy : y.isRef = true) (q : ¬ x = y) (r : Run l R n0 Q K h cells slots pc' Ls (st)) : Run l R n0 Q K h cells slots pc Ls (y :: x :: st) :=
  Run.pure C (Or.inr trivial) (fun p e s m args below meth c hx hby hown hZ T locs X eT target k => by exact XT.acmpYes X.here hx rfl (pc0 := pc) rfl (hb hby hd) rfl hvx hvy (XT.aa_ne_t q) ho hp k) r
theorem r_acmp_ne_f (C : Ctx l R Z own nm code maxL ret fl n0 kz K) {o : Int} {x y : Value} (hd : decode code pc = .ok (.if_acmp .ne o, 3)) (hp : pc + 3 = pc') (hvx : x.isRef = true) (hvy : y.isRef = true) (q : x = y) (r : Run l R n0 Q K h cells slots pc' Ls (st)) : Run l R n0 Q K h cells slots pc Ls (y :: x :: st) :=
  Run.pure C (Or.inr trivial) (fun p e s m args below meth c hx hby hown hZ T locs X eT target k => by subst hp; exact XT.acmpNo X.here hx rfl (hb hby hd) rfl hvx hvy (XT.aa_ne_f q) k) r
theorem r_ldcI (C : Ctx l R Z own nm code maxL ret fl n0 kz K) {idx : Nat} {v : Int32} (hd : decode code pc = .ok (.ldc idx, 2)) (hp : pc + 2 = pc') (w : (Jvm.Cond.constant own idx v).before a0 Z = true) (r : Run l R n0 Q K h cells slots pc' Ls (.int v :: st)) : Run l R n0 Q K h cells slots pc Ls (st) :=
  Run.pure C (Or.inr trivial) (fun p e s m args below meth c hx hby hown hZ T locs X eT target k => by subst hp; exact X.ldcI hx hown (mvT hZ w) rfl (hb hby hd) k) r
theorem r_ldcWI (C : Ctx l R Z own nm code maxL ret fl n0 kz K) {idx : Nat} {v : Int32} (hd : decode code pc = .ok (.ldc_w idx, 3)) (hp : pc + 3 = pc') (w : (Jvm.Cond.constant own idx v).before a0 Z = true) (r : Run l R n0 Q K h cells slots pc' Ls (.int v :: st)) : Run l R n0 Q K h cells slots pc Ls (st) :=
  Run.pure C (Or.inr trivial) (fun p e s m args below meth c hx hby hown hZ T locs X eT target k => by subst hp; exact X.ldcWI hx hown (mvT hZ w) rfl (hb hby hd) k) r
theorem r_ldc2J (C : Ctx l R Z own nm code maxL ret fl n0 kz K) {idx : Nat} {v : Int64} (hd : decode code pc = .ok (.ldc2_w idx, 3)) (hp : pc + 3 = pc') (w : (Jvm.Cond.constantLong own idx v).before a0 Z = true) (r : Run l R n0 Q K h cells slots pc' Ls (.long v :: st)) : Run l R n0 Q K h cells slots pc Ls (st) :=
  Run.pure C (Or.inr trivial) (fun p e s m args below meth c hx hby hown hZ T locs X eT target k => by subst hp; exact X.ldc2J hx hown (mvT hZ w) rfl (hb hby hd) k) r
/-- a place inside an array -/
def Inb (j z : Int32) : Prop := ¬ j < 0 ∧ j < z
theorem r_arraylength (C : Ctx l R Z own nm code maxL ret fl n0 kz K) {a : Addr} {k : ClassId} {ty : FieldType} {z : Int32} {vs : List Value} {dv : Value} (hd : decode code pc = .ok (.arraylength, 1)) (hp : pc + 1 = pc') (A : Arv Z h a k ty z vs dv) (r : Run l R n0 Q K h cells slots pc' Ls (.int z :: st)) : Run l R n0 Q K h cells slots pc Ls (.ref a :: st) :=
  Run.pure C (Or.inr trivial) (fun p e s m args below meth c hx hby hown hZ T locs X eT target kk => by
    subst hp
    obtain ⟨cl, Ar, q1, S, N, H, G⟩ := A
    refine X.arraylength hx (by rw [eT]; exact Ar.1) (State.isArrayOf_alike hZ.alike Ar.2.1) (g := mkF m pc Ls (.ref a :: st)) rfl rfl (hb hby hd) _ ?_
    rw [len_of S N]; exact kk) r
theorem r_iaload (C : Ctx l R Z own nm code maxL ret fl n0 kz K) {a : Addr} {k : ClassId} {z j : Int32} {vs : List Value} {dv v : Value} (hd : decode code pc = .ok (.iaload, 1)) (hp : pc + 1 = pc') (A : Arv Z h a k .int z vs dv) (hj : Inb j z) (hv : vs.getD j.toNatClampNeg dv = v) (r : Run l R n0 Q K h cells slots pc' Ls (v :: st)) : Run l R n0 Q K h cells slots pc Ls (.int j :: .ref a :: st) :=
  Run.pure C (Or.inr trivial) (fun p e s m args below meth c hx hby hown hZ T locs X eT target kk => by
    subst hp
    obtain ⟨cl, Ar, q1, S, N, H, G⟩ := A
    have hin := inb_of S hj
    exact X.iaload hx (by rw [eT]; exact Ar.1) (State.isArrayOf_alike hZ.alike Ar.2.1) Ar.2.2 hin (H.at hin hv) (g := mkF m pc Ls (.int j :: .ref a :: st)) rfl rfl (hb hby hd) _ kk) r
theorem r_laload (C : Ctx l R Z own nm code maxL ret fl n0 kz K) {a : Addr} {k : ClassId} {z j : Int32} {vs : List Value} {dv v : Value} (hd : decode code pc = .ok (.laload, 1)) (hp : pc + 1 = pc') (A : Arv Z h a k .long z vs dv) (hj : Inb j z) (hv : vs.getD j.toNatClampNeg dv = v) (r : Run l R n0 Q K h cells slots pc' Ls (v :: st)) : Run l R n0 Q K h cells slots pc Ls (.int j :: .ref a :: st) :=
  Run.pure C (Or.inr trivial) (fun p e s m args below meth c hx hby hown hZ T locs X eT target kk => by
    subst hp
    obtain ⟨cl, Ar, q1, S, N, H, G⟩ := A
    have hin := inb_of S hj
    exact X.laload hx (by rw [eT]; exact Ar.1) (State.isArrayOf_alike hZ.alike Ar.2.1) Ar.2.2 hin (H.at hin hv) (g := mkF m pc Ls (.int j :: .ref a :: st)) rfl rfl (hb hby hd) _ kk) r
theorem r_caload (C : Ctx l R Z own nm code maxL ret fl n0 kz K) {a : Addr} {k : ClassId} {z j : Int32} {vs : List Value} {dv v : Value} (hd : decode code pc = .ok (.caload, 1)) (hp : pc + 1 = pc') (A : Arv Z h a k .char z vs dv) (hj : Inb j z) (hv : vs.getD j.toNatClampNeg dv = v) (r : Run l R n0 Q K h cells slots pc' Ls (v :: st)) : Run l R n0 Q K h cells slots pc Ls (.int j :: .ref a :: st) :=
  Run.pure C (Or.inr trivial) (fun p e s m args below meth c hx hby hown hZ T locs X eT target kk => by
    subst hp
    obtain ⟨cl, Ar, q1, S, N, H, G⟩ := A
    have hin := inb_of S hj
    exact X.caload hx (by rw [eT]; exact Ar.1) (State.isArrayOf_alike hZ.alike Ar.2.1) Ar.2.2 hin (H.at hin hv) (g := mkF m pc Ls (.int j :: .ref a :: st)) rfl rfl (hb hby hd) _ kk) r
theorem r_saload (C : Ctx l R Z own nm code maxL ret fl n0 kz K) {a : Addr} {k : ClassId} {z j : Int32} {vs : List Value} {dv v : Value} (hd : decode code pc = .ok (.saload, 1)) (hp : pc + 1 = pc') (A : Arv Z h a k .short z vs dv) (hj : Inb j z) (hv : vs.getD j.toNatClampNeg dv = v) (r : Run l R n0 Q K h cells slots pc' Ls (v :: st)) : Run l R n0 Q K h cells slots pc Ls (.int j :: .ref a :: st) :=
  Run.pure C (Or.inr trivial) (fun p e s m args below meth c hx hby hown hZ T locs X eT target kk => by
    subst hp
    obtain ⟨cl, Ar, q1, S, N, H, G⟩ := A
    have hin := inb_of S hj
    exact X.saload hx (by rw [eT]; exact Ar.1) (State.isArrayOf_alike hZ.alike Ar.2.1) Ar.2.2 hin (H.at hin hv) (g := mkF m pc Ls (.int j :: .ref a :: st)) rfl rfl (hb hby hd) _ kk) r
theorem r_baload (C : Ctx l R Z own nm code maxL ret fl n0 kz K) {a : Addr} {k : ClassId} {z j : Int32} {vs : List Value} {dv v : Value} (hd : decode code pc = .ok (.baload, 1)) (hp : pc + 1 = pc') (A : Arv Z h a k .byte z vs dv) (hj : Inb j z) (hv : vs.getD j.toNatClampNeg dv = v) (r : Run l R n0 Q K h cells slots pc' Ls (v :: st)) : Run l R n0 Q K h cells slots pc Ls (.int j :: .ref a :: st) :=
  Run.pure C (Or.inr trivial) (fun p e s m args below meth c hx hby hown hZ T locs X eT target kk => by
    subst hp
    obtain ⟨cl, Ar, q1, S, N, H, G⟩ := A
    have hin := inb_of S hj
    exact X.baloadBytes hx (by rw [eT]; exact Ar.1) (State.isArrayOf_alike hZ.alike Ar.2.1) Ar.2.2 hin (H.at hin hv) (g := mkF m pc Ls (.int j :: .ref a :: st)) rfl rfl (hb hby hd) _ kk) r
theorem r_baloadZ (C : Ctx l R Z own nm code maxL ret fl n0 kz K) {a : Addr} {k : ClassId} {z j : Int32} {vs : List Value} {dv v : Value} (hd : decode code pc = .ok (.baload, 1)) (hp : pc + 1 = pc') (A : Arv Z h a k .boolean z vs dv) (hj : Inb j z) (hv : vs.getD j.toNatClampNeg dv = v) (r : Run l R n0 Q K h cells slots pc' Ls (v :: st)) : Run l R n0 Q K h cells slots pc Ls (.int j :: .ref a :: st) :=
  Run.pure C (Or.inr trivial) (fun p e s m args below meth c hx hby hown hZ T locs X eT target kk => by
    subst hp
    obtain ⟨cl, Ar, q1, S, N, H, G⟩ := A
    have hin := inb_of S hj
    exact X.baloadBooleans hx (by rw [eT]; exact Ar.1) (State.isArrayOf_alike hZ.alike Ar.2.1) Ar.2.2 hin (H.at hin hv) (g := mkF m pc Ls (.int j :: .ref a :: st)) rfl rfl (hb hby hd) _ kk) r
theorem r_aaload (C : Ctx l R Z own nm code maxL ret fl n0 kz K) {a : Addr} {k : ClassId} {ty : FieldType} {z j : Int32} {vs : List Value} {dv v : Value} (hd : decode code pc = .ok (.aaload, 1)) (hp : pc + 1 = pc') (A : Arv Z h a k ty z vs dv) (hty : ty.isReference = true) (hj : Inb j z) (hv : vs.getD j.toNatClampNeg dv = v) (r : Run l R n0 Q K h cells slots pc' Ls (v :: st)) : Run l R n0 Q K h cells slots pc Ls (.int j :: .ref a :: st) :=
  Run.pure C (Or.inr trivial) (fun p e s m args below meth c hx hby hown hZ T locs X eT target kk => by
    subst hp
    obtain ⟨cl, Ar, q1, S, N, H, G⟩ := A
    have hin := inb_of S hj
    exact X.aaload hx (by rw [eT]; exact Ar.1) (State.isArrayOf_alike hZ.alike Ar.2.1) hty Ar.2.2 hin (H.at hin hv) (g := mkF m pc Ls (.int j :: .ref a :: st)) rfl rfl (hb hby hd) _ kk) r
theorem Run.move {cells' slots' : Nat} (C : Ctx l R Z own nm code maxL ret fl n0 kz K)
    (k : ∀ (p : Program) (e : Env) (s : State) (m : MethodId) (args : Array Value) (below : List Frame) (meth : Method) (c : Code), p.tables.exec = Jvm.exec → c.code = code → c.maxLocals = maxL → meth.name = nm → s.vm.findClass own = some m.cls → Z.Warmed39 s.vm → ∀ (T : State) (locs : List Loc), Stand p l e R s m args below meth c T locs cells slots → T.heap = h →
      ∃ (T' : State) (h' : Heap), Stand p l e R s m args below meth c T' locs cells' slots' ∧ T'.heap = h' ∧ Run l R n0 Q K h' cells' slots' pc' Ls' rest ∧ ∀ target, Steps p.tables e below (T'.setTop (mkF m pc' Ls' rest)) target → Steps p.tables e below (T.setTop (mkF m pc Ls st)) target) :
    Run l R n0 Q K h cells slots pc Ls st := by
  obtain ⟨Pl, En, p, e, s, m, args, below, meth, c⟩ := K
  intro T locs X eT N
  obtain ⟨hx, hZ, hown, hby, hml, -, hnm, -⟩ := C
  obtain ⟨T', h', X', eT', r, kk⟩ := k p e s m args below meth c hx hby hml hnm hown hZ T locs X eT
  obtain ⟨s2, o, k1, k2⟩ := r T' locs X' eT' N
  exact ⟨s2, o, kk _ k1, k2⟩
theorem Run.write (C : Ctx l R Z own nm code maxL ret true n0 kz K) {a : Addr} {sl : Nat} (ge : n0 ≤ a)
    (k : ∀ (p : Program) (e : Env) (s : State) (m : MethodId) (args : Array Value) (below : List Frame) (meth : Method) (c : Code), p.tables.exec = Jvm.exec → c.code = code → c.maxLocals = maxL → meth.name = nm → s.vm.findClass own = some m.cls → Z.Warmed39 s.vm → ∀ (T : State) (locs : List Loc), Stand p l e R s m args below meth c T locs cells slots → T.heap = h →
      ∃ (T' : State) (h' : Heap), Stand p l e R s m args below meth c T' (locs ++ [⟨a, sl⟩]) cells slots ∧ T'.heap = h' ∧ Run l R n0 Q K h' cells slots pc' Ls' rest ∧ ∀ target, Steps p.tables e below (T'.setTop (mkF m pc' Ls' rest)) target → Steps p.tables e below (T.setTop (mkF m pc Ls st)) target) :
    Run l R n0 Q K h cells slots pc Ls st := by
  obtain ⟨Pl, En, p, e, s, m, args, below, meth, c⟩ := K
  intro T locs X eT N
  obtain ⟨hx, hZ, hown, hby, hml, -, hnm, -, hcl, -⟩ := C
  obtain ⟨T', h', X', eT', r, kk⟩ := k p e s m args below meth c hx hby hml hnm hown hZ T locs X eT
  obtain ⟨s2, o, k1, k2⟩ := r T' _ X' eT' (hcl rfl _ _ N (fun y hy => by cases List.mem_singleton.mp hy; exact ge))
  exact ⟨s2, o, kk _ k1, k2⟩
theorem r_getF (C : Ctx l R Z own nm code maxL ret fl n0 kz K) {idx : Nat} {R0 O n d : String} {a : Addr} {v : Value} (hd : decode code pc = .ok (.getfield idx, 3)) (hp : pc + 3 = pc') (w : (Jvm.Cond.fieldLink own idx R0 n d).before a0 Z = true) (via : Via Z R0 O n d) (F : Fld Z h a O n d v) (r : Run l R n0 Q K h cells slots pc' Ls (v :: st)) : Run l R n0 Q K h cells slots pc Ls (.ref a :: st) := by
  subst hp
  exact Run.move (cells' := cells) (slots' := slots) (pc' := pc + 3) (Ls' := Ls) (rest := v :: st) C (fun p e s m args below meth c hx hby hml hnm hown hZ T locs X eT => by
    obtain ⟨T', X', e', s'⟩ := getF X hx hZ hown (host := "") (Or.inl w) via eT F (g := mkF m pc Ls (.ref a :: st)) rfl rfl (hb hby hd)
    exact ⟨T', h, X', e', r, s'⟩)
theorem r_getFN (C : Ctx l R Z own nm code maxL ret fl n0 kz K) {idx : Nat} {R0 O n d host : String} {a : Addr} {v : Value} (hd : decode code pc = .ok (.getfield idx, 3)) (hp : pc + 3 = pc') (w : (Jvm.Cond.fieldLinkNest own idx R0 n d host).before a0 Z = true) (via : Via Z R0 O n d) (F : Fld Z h a O n d v) (r : Run l R n0 Q K h cells slots pc' Ls (v :: st)) : Run l R n0 Q K h cells slots pc Ls (.ref a :: st) := by
  subst hp
  exact Run.move (cells' := cells) (slots' := slots) (pc' := pc + 3) (Ls' := Ls) (rest := v :: st) C (fun p e s m args below meth c hx hby hml hnm hown hZ T locs X eT => by
    obtain ⟨T', X', e', s'⟩ := getF X hx hZ hown (Or.inr w) via eT F (g := mkF m pc Ls (.ref a :: st)) rfl rfl (hb hby hd)
    exact ⟨T', h, X', e', r, s'⟩)
theorem r_getS (C : Ctx l R Z own nm code maxL ret fl n0 kz K) {idx : Nat} {R0 O n d : String} {v : Value} (hd : decode code pc = .ok (.getstatic idx, 3)) (hp : pc + 3 = pc') (w : (Jvm.Cond.fieldLink own idx R0 n d).before a0 Z = true) (via : Via Z R0 O n d) (F : Sta Z h O n d v) (r : Run l R n0 Q K h cells slots pc' Ls (v :: st)) : Run l R n0 Q K h cells slots pc Ls st := by
  subst hp
  exact Run.move (cells' := cells) (slots' := slots) (pc' := pc + 3) (Ls' := Ls) (rest := v :: st) C (fun p e s m args below meth c hx hby hml hnm hown hZ T locs X eT => by
    obtain ⟨T', X', e', s'⟩ := getS2 X hx hZ hown (host := "") (Or.inl w) via eT F (g := mkF m pc Ls st) rfl (hb hby hd)
    exact ⟨T', h, X', e', r, s'⟩)
theorem r_putF (C : Ctx l R Z own nm code maxL ret true n0 kz K) {idx kk : Nat} {R0 O n d Cn : String} {a : Addr} {v old : Value} {ty : FieldType} (hd : decode code pc = .ok (.putfield idx, 3)) (hp : pc + 3 = pc') (w : (Jvm.Cond.fieldLink own idx R0 n d).before a0 Z = true) (via : Via Z R0 O n d) (F : Fld Z h a O n d old) (E : Exa Z h a Cn)
    (L : (Jvm.Cond.lays Cn O n d).before a0 Z = true ∨ ((Jvm.Cond.laysFinal Cn O n d).before a0 Z = true ∧ own = O ∧ nm = "<init>")) (wi : (Jvm.Cond.instantiable Cn kk).before a0 Z = true) (hty : parseFieldDescriptor d = some ty) (hn : narrow ty v = v) (hf : fits ty v = true) (ge : n0 ≤ a)
    (r : ∀ h', Wr h h' a (Jvm.RoadKit.slotOf Z O n d) v → Run l R n0 Q K h' cells slots pc' Ls st) : Run l R n0 Q K h cells slots pc Ls (v :: .ref a :: st) := by
  subst hp
  exact Run.write (pc' := pc + 3) (Ls' := Ls) (rest := st) C ge (fun p e s m args below meth c hx hby hml hnm hown hZ T locs X eT => by
    obtain ⟨T', h', X', e', W, s'⟩ := putF X hx hZ hown (host := "") (Or.inl w) via eT F E (L.imp id fun q => ⟨q.1, q.2.1, by rw [hnm]; exact q.2.2⟩) wi hty hn hf (g := mkF m pc Ls (v :: .ref a :: st)) rfl rfl (hb hby hd)
    exact ⟨T', h', X', e', r h' W, s'⟩)
theorem r_putFN (C : Ctx l R Z own nm code maxL ret true n0 kz K) {idx kk : Nat} {R0 O n d Cn : String} {a : Addr} {v v' old : Value} {ty : FieldType} (hd : decode code pc = .ok (.putfield idx, 3)) (hp : pc + 3 = pc') (w : (Jvm.Cond.fieldLink own idx R0 n d).before a0 Z = true) (via : Via Z R0 O n d) (F : Fld Z h a O n d old) (E : Exa Z h a Cn)
    (L : (Jvm.Cond.lays Cn O n d).before a0 Z = true ∨ ((Jvm.Cond.laysFinal Cn O n d).before a0 Z = true ∧ own = O ∧ nm = "<init>")) (wi : (Jvm.Cond.instantiable Cn kk).before a0 Z = true) (hty : parseFieldDescriptor d = some ty) (hn : narrow ty v = v') (hf : fits ty v' = true) (ge : n0 ≤ a)
    (r : ∀ h', Wr h h' a (Jvm.RoadKit.slotOf Z O n d) v' → Run l R n0 Q K h' cells slots pc' Ls st) : Run l R n0 Q K h cells slots pc Ls (v :: .ref a :: st) := by
  subst hp
  exact Run.write (pc' := pc + 3) (Ls' := Ls) (rest := st) C ge (fun p e s m args below meth c hx hby hml hnm hown hZ T locs X eT => by
    obtain ⟨T', h', X', e', W, s'⟩ := putFN X hx hZ hown w via eT F E (L.imp id fun q => ⟨q.1, q.2.1, by rw [hnm]; exact q.2.2⟩) wi hty hn hf (g := mkF m pc Ls (v :: .ref a :: st)) rfl rfl (hb hby hd)
    exact ⟨T', h', X', e', r h' W, s'⟩)
theorem r_new (C : Ctx l R Z own nm code maxL ret fl n0 kz K) {idx n : Nat} {Cn : String} (hd : decode code pc = .ok (.new idx, 3)) (hp : pc + 3 = pc') (w : (Jvm.Cond.classLink own idx Cn).before a0 Z = true) (wi : (Jvm.Cond.instantiable Cn n).before a0 Z = true) (wz : (Jvm.Cond.initialized Cn).before a0 Z = true) (hc : cells + 1 ≤ R.cells) (hl : slots + n ≤ R.slots)
    (r : ∀ h' a, a = h.size → Ext h h' → Exa Z h' a Cn → (∀ {O nm d : String} {ty : FieldType}, Laid Z a0 Cn O nm d → parseFieldDescriptor d = some ty → Fld Z h' a O nm d (defaultValue ty)) → Run l R n0 Q K h' (cells + 1) (slots + n) pc' Ls (.ref a :: st)) : Run l R n0 Q K h cells slots pc Ls st := by
  subst hp
  exact Run.move (cells' := cells + 1) (slots' := slots + n) (pc' := pc + 3) (Ls' := Ls) (rest := .ref h.size :: st) C (fun p e s m args below meth c hx hby hml hnm hown hZ T locs X eT => by
    obtain ⟨T', h', X', e', E, A, D, -, s'⟩ := newO X hx hZ hown w wi wz eT (g := mkF m pc Ls st) rfl (hb hby hd) hc hl
    exact ⟨T', h', X', e', r h' _ rfl E A D, s'⟩)
theorem r_newarray (C : Ctx l R Z own nm code maxL ret fl n0 kz K) {aty : ArrayType} {ty : FieldType} {n : Int32} {cap : Nat} (hd : decode code pc = .ok (.newarray aty, 2)) (hp : pc + 2 = pc') (hty : newarray.typeOf aty = ty) (w : (Jvm.Cond.arrayClass ty).before a0 Z = true) (hn : ¬ n < 0) (hcap : n.toNatClampNeg ≤ cap) (hb' : cap * 8 ≤ 536870912) (hc : cells + 1 ≤ R.cells) (hl : slots + cap ≤ R.slots)
    (r : ∀ h' a k, a = h.size → Ext h h' → Arv Z h' a k ty n [] (defaultValue ty) → Run l R n0 Q K h' (cells + 1) (slots + cap) pc' Ls (.ref a :: st)) : Run l R n0 Q K h cells slots pc Ls (.int n :: st) := by
  subst hp hty
  exact Run.move (cells' := cells + 1) (slots' := slots + cap) (pc' := pc + 2) (Ls' := Ls) (rest := .ref h.size :: st) C (fun p e s m args below meth c hx hby hml hnm hown hZ T locs X eT => by
    obtain ⟨T', h', k, X', e', E, A, s'⟩ := newP X hx hZ w eT (g := mkF m pc Ls (.int n :: st)) rfl (hb hby hd) rfl hn (cap := cap) hcap hb' hc hl
    exact ⟨T', h', X', e', r h' _ k rfl E (Arv.new A hn), s'⟩)
theorem r_anewarray (C : Ctx l R Z own nm code maxL ret fl n0 kz K) {idx : Nat} {Cn : String} {n : Int32} {cap : Nat} (hd : decode code pc = .ok (.anewarray idx, 3)) (hp : pc + 3 = pc') (w : (Jvm.Cond.classLink own idx Cn).before a0 Z = true) (w2 : (Jvm.Cond.arrayOver (.object Cn)).before a0 Z = true) (hn : ¬ n < 0) (hcap : n.toNatClampNeg ≤ cap) (hb' : cap * 8 ≤ 536870912) (hc : cells + 1 ≤ R.cells) (hl : slots + cap ≤ R.slots)
    (r : ∀ h' a k, a = h.size → Ext h h' → Arv Z h' a k (.object Cn) n [] .null → Ovr Z k Cn → Run l R n0 Q K h' (cells + 1) (slots + cap) pc' Ls (.ref a :: st)) : Run l R n0 Q K h cells slots pc Ls (.int n :: st) := by
  subst hp
  exact Run.move (cells' := cells + 1) (slots' := slots + cap) (pc' := pc + 3) (Ls' := Ls) (rest := .ref h.size :: st) C (fun p e s m args below meth c hx hby hml hnm hown hZ T locs X eT => by
    obtain ⟨T', h', k, X', e', E, A, O, s'⟩ := newR X hx hZ hown w w2 eT (g := mkF m pc Ls (.int n :: st)) rfl (hb hby hd) rfl hn (cap := cap) hcap hb' hc hl
    exact ⟨T', h', X', e', r h' _ k rfl E (Arv.new A hn) O, s'⟩)
theorem r_checkcast (C : Ctx l R Z own nm code maxL ret fl n0 kz K) {idx : Nat} {Kn : String} {a : Addr} (hd : decode code pc = .ok (.checkcast idx, 3)) (hp : pc + 3 = pc') (w : (Jvm.Cond.classLink own idx Kn).before a0 Z = true) (F : Ins Z h a Kn true) (r : Run l R n0 Q K h cells slots pc' Ls (.ref a :: st)) : Run l R n0 Q K h cells slots pc Ls (.ref a :: st) := by
  subst hp
  exact Run.move (cells' := cells) (slots' := slots) (pc' := pc + 3) (Ls' := Ls) (rest := .ref a :: st) C (fun p e s m args below meth c hx hby hml hnm hown hZ T locs X eT => by
    obtain ⟨T', X', e', s'⟩ := castY X hx hZ hown w eT F (g := mkF m pc Ls (.ref a :: st)) rfl rfl (hb hby hd)
    exact ⟨T', h, X', e', r, s'⟩)
theorem r_checkcastNull (C : Ctx l R Z own nm code maxL ret fl n0 kz K) {idx : Nat} (hd : decode code pc = .ok (.checkcast idx, 3)) (hp : pc + 3 = pc') (r : Run l R n0 Q K h cells slots pc' Ls (.null :: st)) : Run l R n0 Q K h cells slots pc Ls (.null :: st) :=
  Run.pure C (Or.inr trivial) (fun p e s m args below meth c hx hby hown hZ T locs X eT target kk => by
    subst hp
    exact X.checkcastNull hx (g := mkF m pc Ls (.null :: st)) rfl rfl (hb hby hd) _ kk) r
theorem r_instanceof (C : Ctx l R Z own nm code maxL ret fl n0 kz K) {idx : Nat} {Kn : String} {a : Addr} (hd : decode code pc = .ok (.instanceof idx, 3)) (hp : pc + 3 = pc') (w : (Jvm.Cond.classLink own idx Kn).before a0 Z = true) (F : Ins Z h a Kn true) (r : Run l R n0 Q K h cells slots pc' Ls (.int 1 :: st)) : Run l R n0 Q K h cells slots pc Ls (.ref a :: st) := by
  subst hp
  exact Run.move (cells' := cells) (slots' := slots) (pc' := pc + 3) (Ls' := Ls) (rest := .int 1 :: st) C (fun p e s m args below meth c hx hby hml hnm hown hZ T locs X eT => by
    obtain ⟨T', X', e', s'⟩ := instY X hx hZ hown w eT F (g := mkF m pc Ls (.ref a :: st)) rfl rfl (hb hby hd)
    exact ⟨T', h, X', e', r, s'⟩)
theorem r_iastore (C : Ctx l R Z own nm code maxL ret true n0 kz K) {a : Addr} {k : ClassId} {z j : Int32} {x : Int32} {vs : List Value} {dv : Value} (hd : decode code pc = .ok (.iastore, 1)) (hp : pc + 1 = pc') (A : Arv Z h a k .int z vs dv) (hj : Inb j z) (hi : j.toNatClampNeg < vs.length) (ge : n0 ≤ a)
    (r : ∀ h', Wr h h' a j.toNatClampNeg (.int x) → Arv Z h' a k .int z (vs.set j.toNatClampNeg (.int x)) dv → Run l R n0 Q K h' cells slots pc' Ls st) : Run l R n0 Q K h cells slots pc Ls (.int x :: .int j :: .ref a :: st) := by
  subst hp
  exact Run.write (pc' := pc + 1) (Ls' := Ls) (rest := st) C ge (fun p e s m args below meth c hx hby hml hnm hown hZ T locs X eT => by
    obtain ⟨cl, Ar, q1, S, N1, H, G⟩ := A
    obtain ⟨T', h', X', e', W, s'⟩ := stI X hx hZ eT Ar (j := j) (x := x) (inb_of S hj) (g := mkF m pc Ls (.int x :: .int j :: .ref a :: st)) rfl rfl (hb hby hd)
    exact ⟨T', h', X', e', r h' W (Arv.set Ar q1 S N1 H G rfl W _ rfl hi), s'⟩)
theorem r_lastore (C : Ctx l R Z own nm code maxL ret true n0 kz K) {a : Addr} {k : ClassId} {z j : Int32} {x : Int64} {vs : List Value} {dv : Value} (hd : decode code pc = .ok (.lastore, 1)) (hp : pc + 1 = pc') (A : Arv Z h a k .long z vs dv) (hj : Inb j z) (hi : j.toNatClampNeg < vs.length) (ge : n0 ≤ a)
    (r : ∀ h', Wr h h' a j.toNatClampNeg (.long x) → Arv Z h' a k .long z (vs.set j.toNatClampNeg (.long x)) dv → Run l R n0 Q K h' cells slots pc' Ls st) : Run l R n0 Q K h cells slots pc Ls (.long x :: .int j :: .ref a :: st) := by
  subst hp
  exact Run.write (pc' := pc + 1) (Ls' := Ls) (rest := st) C ge (fun p e s m args below meth c hx hby hml hnm hown hZ T locs X eT => by
    obtain ⟨cl, Ar, q1, S, N1, H, G⟩ := A
    obtain ⟨T', h', X', e', W, s'⟩ := stJ X hx hZ eT Ar (j := j) (x := x) (inb_of S hj) (g := mkF m pc Ls (.long x :: .int j :: .ref a :: st)) rfl rfl (hb hby hd)
    exact ⟨T', h', X', e', r h' W (Arv.set Ar q1 S N1 H G rfl W _ rfl hi), s'⟩)
theorem r_castore (C : Ctx l R Z own nm code maxL ret true n0 kz K) {a : Addr} {k : ClassId} {z j x : Int32} {vs : List Value} {dv : Value} (hd : decode code pc = .ok (.castore, 1)) (hp : pc + 1 = pc') (A : Arv Z h a k .char z vs dv) (hj : Inb j z) (hi : j.toNatClampNeg < vs.length) (hf : fits .char (.int (nar .char x)) = true) (ge : n0 ≤ a)
    (r : ∀ h', Wr h h' a j.toNatClampNeg (.int (nar .char x)) → Arv Z h' a k .char z (vs.set j.toNatClampNeg (.int (nar .char x))) dv → Run l R n0 Q K h' cells slots pc' Ls st) : Run l R n0 Q K h cells slots pc Ls (.int x :: .int j :: .ref a :: st) := by
  subst hp
  exact Run.write (pc' := pc + 1) (Ls' := Ls) (rest := st) C ge (fun p e s m args below meth c hx hby hml hnm hown hZ T locs X eT => by
    obtain ⟨cl, Ar, q1, S, N1, H, G⟩ := A
    obtain ⟨T', h', X', e', W, s'⟩ := stC X hx hZ eT Ar (j := j) (x := x) (inb_of S hj) (g := mkF m pc Ls (.int x :: .int j :: .ref a :: st)) rfl rfl (hb hby hd)
    exact ⟨T', h', X', e', r h' W (Arv.set Ar q1 S N1 H G hf W _ rfl hi), s'⟩)
theorem r_bastore (C : Ctx l R Z own nm code maxL ret true n0 kz K) {a : Addr} {k : ClassId} {z j x : Int32} {vs : List Value} {dv : Value} (hd : decode code pc = .ok (.bastore, 1)) (hp : pc + 1 = pc') (A : Arv Z h a k .byte z vs dv) (hj : Inb j z) (hi : j.toNatClampNeg < vs.length) (hf : fits .byte (.int (nar .byte x)) = true) (ge : n0 ≤ a)
    (r : ∀ h', Wr h h' a j.toNatClampNeg (.int (nar .byte x)) → Arv Z h' a k .byte z (vs.set j.toNatClampNeg (.int (nar .byte x))) dv → Run l R n0 Q K h' cells slots pc' Ls st) : Run l R n0 Q K h cells slots pc Ls (.int x :: .int j :: .ref a :: st) := by
  subst hp
  exact Run.write (pc' := pc + 1) (Ls' := Ls) (rest := st) C ge (fun p e s m args below meth c hx hby hml hnm hown hZ T locs X eT => by
    obtain ⟨cl, Ar, q1, S, N1, H, G⟩ := A
    obtain ⟨T', h', X', e', W, s'⟩ := stB X hx hZ eT Ar (j := j) (x := x) (inb_of S hj) (g := mkF m pc Ls (.int x :: .int j :: .ref a :: st)) rfl rfl (hb hby hd)
    exact ⟨T', h', X', e', r h' W (Arv.set Ar q1 S N1 H G hf W _ rfl hi), s'⟩)
theorem r_bastoreZ (C : Ctx l R Z own nm code maxL ret true n0 kz K) {a : Addr} {k : ClassId} {z j x : Int32} {vs : List Value} {dv : Value} (hd : decode code pc = .ok (.bastore, 1)) (hp : pc + 1 = pc') (A : Arv Z h a k .boolean z vs dv) (hj : Inb j z) (hi : j.toNatClampNeg < vs.length) (hf : fits .boolean (.int (nar .boolean x)) = true) (ge : n0 ≤ a)
    (r : ∀ h', Wr h h' a j.toNatClampNeg (.int (nar .boolean x)) → Arv Z h' a k .boolean z (vs.set j.toNatClampNeg (.int (nar .boolean x))) dv → Run l R n0 Q K h' cells slots pc' Ls st) : Run l R n0 Q K h cells slots pc Ls (.int x :: .int j :: .ref a :: st) := by
  subst hp
  exact Run.write (pc' := pc + 1) (Ls' := Ls) (rest := st) C ge (fun p e s m args below meth c hx hby hml hnm hown hZ T locs X eT => by
    obtain ⟨cl, Ar, q1, S, N1, H, G⟩ := A
    obtain ⟨T', h', X', e', W, s'⟩ := stZ X hx hZ eT Ar (j := j) (x := x) (inb_of S hj) (g := mkF m pc Ls (.int x :: .int j :: .ref a :: st)) rfl rfl (hb hby hd)
    exact ⟨T', h', X', e', r h' W (Arv.set Ar q1 S N1 H G hf W _ rfl hi), s'⟩)
/-- what may lie in a reference array -/
def Stv (Z : State) (h : Heap) (k : ClassId) (v : Value) : Prop := v = .null ∨ ∃ y C, v = .ref y ∧ Ovr Z k C ∧ Ins Z h y C true
theorem r_aastore (C : Ctx l R Z own nm code maxL ret true n0 kz K) {a : Addr} {k : ClassId} {ty : FieldType} {z j : Int32} {v : Value} {vs : List Value} {dv : Value} (hd : decode code pc = .ok (.aastore, 1)) (hp : pc + 1 = pc') (A : Arv Z h a k ty z vs dv) (hty : ty.isReference = true) (hj : Inb j z) (hi : j.toNatClampNeg < vs.length) (F : Stv Z h k v) (ge : n0 ≤ a)
    (r : ∀ h', Wr h h' a j.toNatClampNeg v → Arv Z h' a k ty z (vs.set j.toNatClampNeg v) dv → Run l R n0 Q K h' cells slots pc' Ls st) : Run l R n0 Q K h cells slots pc Ls (v :: .int j :: .ref a :: st) := by
  subst hp
  exact Run.write (pc' := pc + 1) (Ls' := Ls) (rest := st) C ge (fun p e s m args below meth c hx hby hml hnm hown hZ T locs X eT => by
    obtain ⟨cl, Ar, q1, S, N1, H, G⟩ := A
    have F' : Sto Z h a v := by
      rcases F with rfl | ⟨y, Cn, rfl, O, I⟩
      · exact Or.inl rfl
      · exact Sto.ofV Ar q1 O I
    have hf : fits ty v = true := by
      rcases F with rfl | ⟨y, Cn, rfl, O, I⟩ <;> cases ty <;> first | rfl | (cases hty; done)
    obtain ⟨T', h', X', e', W, s'⟩ := stR X hx hZ eT Ar (j := j) (inb_of S hj) hty F' (g := mkF m pc Ls (v :: .int j :: .ref a :: st)) rfl rfl (hb hby hd)
    exact ⟨T', h', X', e', r h' W (Arv.set Ar q1 S N1 H G hf W _ rfl hi), s'⟩)
theorem r_initO (C : Ctx l R Z own nm code maxL ret fl n0 kz K) {idx W : Nat} {a : Addr} (hd : decode code pc = .ok (.invokespecial idx, 3)) (hp : pc + 3 = pc') (w1 : (Jvm.Cond.methodLink own idx Lib.objectInit).before a0 Z = true) (w2 : (Jvm.Cond.instanceMethod Lib.objectInit).before a0 Z = true) (w3 : (Jvm.Cond.code Lib.objectInit ⟨#[0xb1]⟩ 1 none).before a0 Z = true)
    (hsz : Ls.size = maxL) (hf : 1 ≤ R.frames) (hW : (st.map fun v => v.category).sum ≤ W) (hl : W + 12 ≤ R.locals) (r : Run l R n0 Q K h cells slots pc' Ls st) : Run l R n0 Q K h cells slots pc Ls (.ref a :: st) := by
  subst hp
  exact Run.move (cells' := cells) (slots' := slots) (pc' := pc + 3) (Ls' := Ls) (rest := st) C (fun p e s m args below meth c hx hby hml hnm hown hZ T locs X eT => by
    obtain ⟨T', X', e', s'⟩ := initO X hx hZ hown w1 w2 w3 eT (g := mkF m pc Ls (.ref a :: st)) rfl (by rw [hml]; exact hsz) rfl (hb hby hd) hf (W := W) (by show 2 * 0 + _ ≤ _; omega) hl
    exact ⟨T', h, X', e', r, s'⟩)
theorem Con.back {y : MethodName} {bytes : ByteArray} {mL : Nat} {rt : Option FieldType} {rm : Room} {as : Array Value} {Q' : Option Value → Heap → Prop} {len W : Nat} {p : Program} {e : Env} {below : List Frame} {s : State} {args : Array Value} (M : Con l [] y bytes mL rt rm Z as h n0 Q') (hZ : Z.Warmed39 s.vm) (wc : (Jvm.Cond.code y bytes mL rt).before a0 Z = true) (wz : (Jvm.Cond.initialized y.cls).before a0 Z = true) (hf : rm.frames + 1 ≤ R.frames) (hl : W + (mL + 11) + rm.locals ≤ R.locals) :
    Back l R p e below s args y len W (fun A a => a = as ∧ A.U.heap = h ∧ A.cells + rm.cells ≤ R.cells ∧ A.slots + rm.slots ≤ R.slots) (fun A _ v B => ∃ L, (Q' v B.U.heap ∧ Fr n0 L) ∧ B.locs = A.locs ++ L ∧ B.cells = A.cells + rm.cells ∧ B.slots = A.slots + rm.slots) :=
  backOf (Q := fun v h L => Q' v h ∧ Fr n0 L) M hZ wc wz hf hl
/-- a static method by its contract -/
theorem r_callS (C : Ctx l R Z own nm code maxL ret true n0 kz K) {idx : Nat} {y : MethodName} {bytes : ByteArray} {mL : Nat} {rt : Option FieldType} {rm : Room} {argsL : List Value} {Q' : Option Value → Heap → Prop} {ps : List FieldType} {rr : Option FieldType} {W cells' slots' : Nat} {stk : List Value}
    (M : Con l [] y bytes mL rt rm Z argsL.toArray h n0 Q') (hd : decode code pc = .ok (.invokestatic idx, 3)) (hp : pc + 3 = pc') (w1 : (Jvm.Cond.methodLink own idx y).before a0 Z = true) (w2 : (Jvm.Cond.static y).before a0 Z = true) (w3 : (Jvm.Cond.initialized y.cls).before a0 Z = true) (w4 : (Jvm.Cond.code y bytes mL rt).before a0 Z = true)
    (hy : y.cls ≠ "java/lang/invoke/MethodHandle" ∧ y.cls ≠ "java/lang/invoke/VarHandle") (pd : parseMethodDescriptor y.desc = some ⟨ps, rr⟩) (hlen : argsL.length = ps.length) (hst : stk = argsL.reverse ++ st) (hsz : Ls.size = maxL) (hW : (st.map fun v => v.category).sum ≤ W)
    (hf : rm.frames + 1 ≤ R.frames) (hlo : W + (mL + 11) + rm.locals ≤ R.locals) (hc : cells + rm.cells ≤ R.cells) (hs : slots + rm.slots ≤ R.slots) (ec : cells + rm.cells = cells') (es : slots + rm.slots = slots')
    (r : ∀ v h', Q' v h' → Run l R n0 Q K h' cells' slots' pc' Ls (v.toList ++ st)) : Run l R n0 Q K h cells slots pc Ls stk := by
  obtain ⟨Pl, En, p, e, s, m, args, below, meth, c⟩ := K
  intro T locs X eT N
  obtain ⟨hx, hZ, hown, hby, hml, -, hnm, -, hcl, -⟩ := C
  subst hp hst ec es
  obtain ⟨v, _, ⟨T', L', k', n'⟩, -, X', ⟨Lc, ⟨hQ, N'⟩, l', y', z'⟩, s'⟩ := Jvm.LawKit.callS X hx (y := y) hown (mvT hZ w1) (mvT hZ w2) (mvT hZ w3) (mvT hZ w4) hy (Con.back (W := W) M hZ w4 w3 hf hlo) (g := mkF m pc Ls (argsL.reverse ++ st)) rfl (by rw [hml]; exact hsz) (argsL := argsL) (rest := st) (lenOf pd hlen) rfl (by show 2 * 0 + _ ≤ _; omega) (hb hby hd) (fun _ _ => ⟨rfl, eT, hc, hs⟩)
  dsimp only [Pt.U, Pt.locs, Pt.cells, Pt.slots] at X' l' y' z' s' hQ N'
  subst l' y' z'
  obtain ⟨s2, o, k1, k2⟩ := r v T'.heap hQ T' _ X' rfl (hcl rfl _ _ N N')
  exact ⟨s2, o, s' _ k1, k2⟩
/-- a constructor by its contract -/
theorem r_callI (C : Ctx l R Z own nm code maxL ret true n0 kz K) {idx : Nat} {y : MethodName} {bytes : ByteArray} {mL : Nat} {rm : Room} {a : Addr} {argsL : List Value} {Q' : Option Value → Heap → Prop} {ps : List FieldType} {rr : Option FieldType} {W cells' slots' : Nat} {stk : List Value}
    (M : Con l [] y bytes mL none rm Z (.ref a :: argsL).toArray h n0 Q') (hd : decode code pc = .ok (.invokespecial idx, 3)) (hp : pc + 3 = pc') (w1 : (Jvm.Cond.methodLink own idx y).before a0 Z = true) (w2 : (Jvm.Cond.instanceMethod y).before a0 Z = true) (w3 : (Jvm.Cond.initialized y.cls).before a0 Z = true) (w4 : (Jvm.Cond.code y bytes mL none).before a0 Z = true)
    (hin : y.name = "<init>") (hy : y.cls ≠ "java/lang/invoke/MethodHandle" ∧ y.cls ≠ "java/lang/invoke/VarHandle") (pd : parseMethodDescriptor y.desc = some ⟨ps, rr⟩) (hlen : argsL.length = ps.length) (hst : stk = argsL.reverse ++ .ref a :: st) (hsz : Ls.size = maxL) (hW : (st.map fun v => v.category).sum ≤ W)
    (hf : rm.frames + 1 ≤ R.frames) (hlo : W + (mL + 11) + rm.locals ≤ R.locals) (hc : cells + rm.cells ≤ R.cells) (hs : slots + rm.slots ≤ R.slots) (ec : cells + rm.cells = cells') (es : slots + rm.slots = slots')
    (r : ∀ v h', Q' v h' → Run l R n0 Q K h' cells' slots' pc' Ls (v.toList ++ st)) : Run l R n0 Q K h cells slots pc Ls stk := by
  obtain ⟨Pl, En, p, e, s, m, args, below, meth, c⟩ := K
  intro T locs X eT N
  obtain ⟨hx, hZ, hown, hby, hml, -, hnm, -, hcl, -⟩ := C
  subst hp hst ec es
  obtain ⟨v, _, ⟨T', L', k', n'⟩, -, X', ⟨Lc, ⟨hQ, N'⟩, l', y', z'⟩, s'⟩ := X.specialBack hx (y := y) hin hown (mvT hZ w1) (mvT hZ w2) (mvT hZ w4) hy (Con.back (W := W) M hZ w4 w3 hf hlo) (g := mkF m pc Ls (argsL.reverse ++ .ref a :: st)) rfl (by rw [hml]; exact hsz) (Steps.refl _) (a := a) (argsL := argsL) (rest := st) (lenOf pd hlen) rfl (by show 2 * 0 + _ ≤ _; omega) (hb hby hd) (fun _ _ => ⟨rfl, eT, hc, hs⟩)
  dsimp only [Pt.U, Pt.locs, Pt.cells, Pt.slots] at X' l' y' z' s' hQ N'
  subst l' y' z'
  obtain ⟨s2, o, k1, k2⟩ := r v T'.heap hQ T' _ X' rfl (hcl rfl _ _ N N')
  exact ⟨s2, o, s'.trans k1, k2⟩
/-- an instance method by the contract of the body that the receiver's class selects -/
theorem r_callV (C : Ctx l R Z own nm code maxL ret true n0 kz K) {idx : Nat} {y z : MethodName} {Cn : String} {bytes : ByteArray} {mL : Nat} {rt : Option FieldType} {rm : Room} {a : Addr} {argsL : List Value} {Q' : Option Value → Heap → Prop} {ps : List FieldType} {rr : Option FieldType} {W cells' slots' : Nat} {stk : List Value}
    (M : Con l [] z bytes mL rt rm Z (.ref a :: argsL).toArray h n0 Q') (E : Exa Z h a Cn) (hd : decode code pc = .ok (.invokevirtual idx, 3)) (hp : pc + 3 = pc') (w1 : (Jvm.Cond.methodLink own idx y).before a0 Z = true) (wd : (Jvm.Cond.declares y).before a0 Z = true) (nf : ∀ (s : State) (args : Array Value), Z.Warmed39 s.vm → NotFace s y) (ws : (Jvm.Cond.selects Cn y z).before a0 Z = true) (w2 : (Jvm.Cond.instanceMethod z).before a0 Z = true) (w3 : (Jvm.Cond.initialized z.cls).before a0 Z = true) (w4 : (Jvm.Cond.code z bytes mL rt).before a0 Z = true)
    (hy : y.cls ≠ "java/lang/invoke/MethodHandle" ∧ y.cls ≠ "java/lang/invoke/VarHandle") (pd : parseMethodDescriptor y.desc = some ⟨ps, rr⟩) (hlen : argsL.length = ps.length) (hst : stk = argsL.reverse ++ .ref a :: st) (hsz : Ls.size = maxL) (hW : (st.map fun v => v.category).sum ≤ W)
    (hf : rm.frames + 1 ≤ R.frames) (hlo : W + (mL + 11) + rm.locals ≤ R.locals) (hc : cells + rm.cells ≤ R.cells) (hs : slots + rm.slots ≤ R.slots) (ec : cells + rm.cells = cells') (es : slots + rm.slots = slots')
    (r : ∀ v h', Q' v h' → Run l R n0 Q K h' cells' slots' pc' Ls (v.toList ++ st)) : Run l R n0 Q K h cells slots pc Ls stk := by
  obtain ⟨Pl, En, p, e, s, m, args, below, meth, c⟩ := K
  intro T locs X eT N
  obtain ⟨hx, hZ, hown, hby, hml, -, hnm, -, hcl, -⟩ := C
  subst hp hst ec es
  obtain ⟨cq, kq, qa, qb, qc⟩ := isOf hZ eT E
  obtain ⟨v, _, ⟨T', L', k', n'⟩, -, X', ⟨Lc, ⟨hQ, N'⟩, l', y', z'⟩, s'⟩ := X.virtualBack hx (y := y) (z := z) hown (mvT hZ w1) (mvT hZ wd) (nf s args hZ) (mvT hZ ws) (mvT hZ w2) hy (Con.back (W := W) M hZ w4 w3 hf hlo) qa qc (g := mkF m pc Ls (argsL.reverse ++ .ref a :: st)) rfl (by rw [hml]; exact hsz) (Steps.refl _) (argsL := argsL) (rest := st) (lenOf pd hlen) rfl (by show 2 * 0 + _ ≤ _; omega) (hb hby hd) (fun _ _ => ⟨rfl, eT, hc, hs⟩)
  dsimp only [Pt.U, Pt.locs, Pt.cells, Pt.slots] at X' l' y' z' s' hQ N'
  subst l' y' z'
  obtain ⟨s2, o, k1, k2⟩ := r v T'.heap hQ T' _ X' rfl (hcl rfl _ _ N N')
  exact ⟨s2, o, s'.trans k1, k2⟩
theorem nfSel {y z : MethodName} {Cn : String} (w : (Jvm.Cond.selects Cn y y).before a0 Z = true) : ∀ (s : State) (args : Array Value), Z.Warmed39 s.vm → NotFace s y := fun s args hZ => notFace_of_selects (args := args) (mvT hZ w)
/-- a private instance method by its contract (invokevirtual) -/
theorem r_callP (C : Ctx l R Z own nm code maxL ret true n0 kz K) {idx : Nat} {y : MethodName} {bytes : ByteArray} {mL : Nat} {rt : Option FieldType} {rm : Room} {a : Addr} {Cn : String} {argsL : List Value} {Q' : Option Value → Heap → Prop} {ps : List FieldType} {rr : Option FieldType} {W cells' slots' : Nat} {stk : List Value}
    (M : Con l [] y bytes mL rt rm Z (.ref a :: argsL).toArray h n0 Q') (E : Exa Z h a Cn) (hd : decode code pc = .ok (.invokevirtual idx, 3)) (hp : pc + 3 = pc') (w1 : (Jvm.Cond.methodLink own idx y).before a0 Z = true) (w2 : (Jvm.Cond.instanceMethod y).before a0 Z = true) {kk : Nat} (wi : (Jvm.Cond.instantiable y.cls kk).before a0 Z = true) (wp : (Jvm.Cond.privateMethod y).before a0 Z = true) (w3 : (Jvm.Cond.initialized y.cls).before a0 Z = true) (w4 : (Jvm.Cond.code y bytes mL rt).before a0 Z = true)
    (hy : y.cls ≠ "java/lang/invoke/MethodHandle" ∧ y.cls ≠ "java/lang/invoke/VarHandle") (pd : parseMethodDescriptor y.desc = some ⟨ps, rr⟩) (hlen : argsL.length = ps.length) (hst : stk = argsL.reverse ++ .ref a :: st) (hsz : Ls.size = maxL) (hW : (st.map fun v => v.category).sum ≤ W)
    (hf : rm.frames + 1 ≤ R.frames) (hlo : W + (mL + 11) + rm.locals ≤ R.locals) (hc : cells + rm.cells ≤ R.cells) (hs : slots + rm.slots ≤ R.slots) (ec : cells + rm.cells = cells') (es : slots + rm.slots = slots')
    (r : ∀ v h', Q' v h' → Run l R n0 Q K h' cells' slots' pc' Ls (v.toList ++ st)) : Run l R n0 Q K h cells slots pc Ls stk := by
  obtain ⟨Pl, En, p, e, s, m, args, below, meth, c⟩ := K
  intro T locs X eT N
  obtain ⟨hx, hZ, hown, hby, hml, -, hnm, -, hcl, -⟩ := C
  subst hp hst ec es
  obtain ⟨cq, q1, q2⟩ := E.cell
  have hpr : s.PrivateAt y := Cond.privateMethod_at (mvP hZ wp (args := #[]))
  have hw2 : (Jvm.Cond.instanceMethod y).before args s = true := mvT hZ w2
  obtain ⟨c2, k2, hc2, hk2, -, hni, -, -⟩ := Cond.instantiable_spec (mvT (args := args) hZ wi)
  have hsel := Stand.selects_self_of_private hc2 hk2 (Bool.or_eq_false_iff.mp hni).1 hpr hw2 hy
  obtain ⟨v, _, ⟨T', L', k', n'⟩, -, X', ⟨Lc, ⟨hQ, N'⟩, l', y', z'⟩, s'⟩ := X.privateBack hx (y := y) hown (mvT hZ w1) hw2 hsel hpr (mvT hZ w4) hy (Con.back (W := W) M hZ w4 w3 hf hlo) (g := mkF m pc Ls (argsL.reverse ++ .ref a :: st)) rfl (by rw [hml]; exact hsz) (Steps.refl _) (a := a) (by rw [eT]; exact q1) q2 (argsL := argsL) (rest := st) (lenOf pd hlen) rfl (by show 2 * 0 + _ ≤ _; omega) (hb hby hd) (fun _ _ => ⟨rfl, eT, hc, hs⟩)
  dsimp only [Pt.U, Pt.locs, Pt.cells, Pt.slots] at X' l' y' z' s' hQ N'
  subst l' y' z'
  obtain ⟨s2, o, k1, k2⟩ := r v T'.heap hQ T' _ X' rfl (hcl rfl _ _ N N')
  exact ⟨s2, o, s'.trans k1, k2⟩
/-- through an interface -/
theorem r_callF (C : Ctx l R Z own nm code maxL ret true n0 kz K) {idx count : Nat} {y z : MethodName} {Cn : String} {bytes : ByteArray} {mL : Nat} {rt : Option FieldType} {rm : Room} {a : Addr} {argsL : List Value} {Q' : Option Value → Heap → Prop} {ps : List FieldType} {rr : Option FieldType} {W cells' slots' : Nat} {stk : List Value}
    (M : Con l [] z bytes mL rt rm Z (.ref a :: argsL).toArray h n0 Q') (E : Exa Z h a Cn) (hd : decode code pc = .ok (.invokeinterface idx count, 5)) (hp : pc + 5 = pc') (w1 : (Jvm.Cond.methodLink own idx y).before a0 Z = true) (wd : (Jvm.Cond.declares y).before a0 Z = true) (wf : (Jvm.Cond.interfaceMethod y.cls y.cls y.name y.desc).before a0 Z = true) (ws : (Jvm.Cond.selects Cn y z).before a0 Z = true) (w2 : (Jvm.Cond.instanceMethod z).before a0 Z = true) (wp : (Jvm.Cond.publicMethod z).before a0 Z = true) (wu : (Jvm.Cond.unhidden Cn y.name y.desc).before a0 Z = true) (wc : (Jvm.Cond.castable Cn y.cls).before a0 Z = true) (w3 : (Jvm.Cond.initialized z.cls).before a0 Z = true) (w4 : (Jvm.Cond.code z bytes mL rt).before a0 Z = true)
    (hfa : ((Jvm.Cond.interfaceMethod y.cls y.cls y.name y.desc).onTables && (Jvm.Cond.interfaceMethod y.cls y.cls y.name y.desc).keepsFace) = true) (hy : y.cls ≠ "java/lang/invoke/MethodHandle" ∧ y.cls ≠ "java/lang/invoke/VarHandle") (pd : parseMethodDescriptor y.desc = some ⟨ps, rr⟩) (hlen : argsL.length = ps.length) (hst : stk = argsL.reverse ++ .ref a :: st) (hsz : Ls.size = maxL) (hW : (st.map fun v => v.category).sum ≤ W)
    (hf : rm.frames + 1 ≤ R.frames) (hlo : W + (mL + 11) + rm.locals ≤ R.locals) (hc : cells + rm.cells ≤ R.cells) (hs : slots + rm.slots ≤ R.slots) (ec : cells + rm.cells = cells') (es : slots + rm.slots = slots')
    (r : ∀ v h', Q' v h' → Run l R n0 Q K h' cells' slots' pc' Ls (v.toList ++ st)) : Run l R n0 Q K h cells slots pc Ls stk := by
  obtain ⟨Pl, En, p, e, s, m, args, below, meth, c⟩ := K
  intro T locs X eT N
  obtain ⟨hx, hZ, hown, hby, hml, -, hnm, -, hcl, -⟩ := C
  subst hp hst ec es
  obtain ⟨cq, kq, qa, qb, qc⟩ := isOf hZ eT E
  obtain ⟨v, _, ⟨T', L', k', n'⟩, -, X', ⟨Lc, ⟨hQ, N'⟩, l', y', z'⟩, s'⟩ := X.interfaceBack hx (xi := y) (y := z) hown (mvT hZ w1) (mvT hZ wd) (mvT hZ wf hfa) (mvT hZ ws) (mvT hZ w2) (mvT hZ wp) (mvT hZ wu) (mvT hZ wc) hy (Con.back (W := W) M hZ w4 w3 hf hlo) qa qb qc (g := mkF m pc Ls (argsL.reverse ++ .ref a :: st)) rfl (by rw [hml]; exact hsz) (Steps.refl _) (argsL := argsL) (rest := st) (lenOf pd hlen) rfl (by show 2 * 0 + _ ≤ _; omega) (hb hby hd) (fun _ _ => ⟨rfl, eT, hc, hs⟩)
  dsimp only [Pt.U, Pt.locs, Pt.cells, Pt.slots] at X' l' y' z' s' hQ N'
  subst l' y' z'
  obtain ⟨s2, o, k1, k2⟩ := r v T'.heap hQ T' _ X' rfl (hcl rfl _ _ N N')
  exact ⟨s2, o, s'.trans k1, k2⟩

/-! numbers -/
def i32 (n : Nat) : Int32 := Int32.ofNat n
theorem i32_toInt {n : Nat} (h : n < 2147483648) : (i32 n).toInt = (n : Int) := Int32.toInt_ofNat_small h
theorem i32_clamp {n : Nat} (h : n < 2147483648) : (i32 n).toNatClampNeg = n := by
  show ((i32 n).toInt).toNat = n
  rw [i32_toInt h]; rfl
theorem i32_nn {n : Nat} (h : n < 2147483648) : ¬ i32 n < 0 := by
  rw [Int32.lt_iff_toInt_lt, i32_toInt h]; show ¬ (n : Int) < 0; omega
theorem i32_lt {a b : Nat} (ha : a < 2147483648) (hb : b < 2147483648) : i32 a < i32 b ↔ a < b := by
  rw [Int32.lt_iff_toInt_lt, i32_toInt ha, i32_toInt hb]; omega
theorem i32_eq {a b : Nat} (ha : a < 2147483648) (hb : b < 2147483648) : i32 a = i32 b ↔ a = b := by
  rw [← Int32.toInt_inj, i32_toInt ha, i32_toInt hb]; omega
theorem i32_add (a b : Nat) : i32 a + i32 b = i32 (a + b) := (Int32.ofNat_add a b).symm
theorem i32_mul (a b : Nat) : i32 a * i32 b = i32 (a * b) := (Int32.ofNat_mul a b).symm
theorem i32_sub {a b : Nat} (h : b ≤ a) : i32 a - i32 b = i32 (a - b) := by
  have e : i32 a = i32 (a - b) + i32 b := by rw [i32_add, Nat.sub_add_cancel h]
  rw [e, Int32.add_sub_cancel]
theorem i32_of {x : Int32} (h : ¬ x < 0) : x = i32 x.toNatClampNeg := (back32 h).1.symm
theorem bm32 {n : Int} (h1 : -2147483648 ≤ n) (h2 : n < 2147483648) : n.bmod (2 ^ 32) = n := Int.bmod_eq_of_le (by omega) (by omega)
theorem i32_div {a b : Nat} (ha : a < 2147483648) (hb : b < 2147483648) : i32 a / i32 b = i32 (a / b) := by
  apply Int32.toInt_inj.mp
  have hq : a / b < 2147483648 := Nat.lt_of_le_of_lt (Nat.div_le_self a b) ha
  rw [Int32.toInt_div, i32_toInt ha, i32_toInt hb, i32_toInt hq, Int.tdiv_eq_ediv_of_nonneg (by omega)]
  have e : (a : Int) / (b : Int) = ((a / b : Nat) : Int) := rfl
  rw [e]; exact bm32 (Int.le_trans (by decide) (Int.natCast_nonneg _)) (Int.ofNat_lt.mpr hq)
theorem i32_rem {a b : Nat} (ha : a < 2147483648) (hb : b < 2147483648) : i32 a % i32 b = i32 (a % b) := by
  apply Int32.toInt_inj.mp
  have hq : a % b < 2147483648 := Nat.lt_of_le_of_lt (Nat.mod_le a b) ha
  rw [Int32.toInt_mod, i32_toInt ha, i32_toInt hb, i32_toInt hq, Int.tmod_eq_emod_of_nonneg (by omega)]
  rfl
theorem i32_ushr1 {a : Nat} (ha : a < 2147483648) : XT.ushr (i32 a) 1 = i32 (a / 2) := by
  have h1 : (i32 a).toUInt32 = UInt32.ofNat a := rfl
  show ((i32 a).toUInt32 >>> ((1 : Int32) &&& 31).toUInt32).toInt32 = _
  rw [h1, show ((1 : Int32) &&& 31).toUInt32 = 1 from rfl]
  apply Int32.toBitVec_inj.mp
  show (UInt32.ofNat a >>> 1).toBitVec = BitVec.ofNat 32 (a / 2)
  apply BitVec.eq_of_toNat_eq
  show (UInt32.ofNat a >>> 1).toNat = (a / 2) % 2 ^ 32
  rw [UInt32.toNat_shiftRight]
  have e2 : (UInt32.ofNat a).toNat = a := by show a % 2 ^ 32 = a; omega
  rw [e2, show (1 : UInt32).toNat % 32 = 1 from rfl, Nat.shiftRight_eq_div_pow]; omega
theorem inb_i {i n : Nat} (h : i < n) (hn : n < 2147483648) : Inb (i32 i) (i32 n) := ⟨i32_nn (Nat.lt_trans h hn), (i32_lt (Nat.lt_trans h hn) hn).mpr h⟩
/-! an array, whole -/
def AV (Z : State) (h : Heap) (a : Addr) (k : ClassId) (ty : FieldType) (vs : List Value) (dv : Value) : Prop := Arv Z h a k ty (i32 vs.length) vs dv ∧ vs.length < 2147483648
theorem AV.lt {a : Addr} {k : ClassId} {ty : FieldType} {vs : List Value} {dv : Value} (F : AV Z h a k ty vs dv) : @LT.lt Nat _ a h.size := F.1.lt
theorem exaLt {a : Addr} {Cn : String} (F : Exa Z h a Cn) : @LT.lt Nat _ a h.size := F.lt
theorem fldLt {a : Addr} {Cn n d : String} {v : Value} (F : Fld Z h a Cn n d v) : @LT.lt Nat _ a h.size := F.lt
theorem AV.ext {a : Addr} {k : ClassId} {ty : FieldType} {vs : List Value} {dv : Value} {h' : Heap} (F : AV Z h a k ty vs dv) (E : Ext h h') : AV Z h' a k ty vs dv := ⟨F.1.ext E, F.2⟩
theorem nn {a b : Nat} (h : @Ne Nat a b) : @Ne Addr a b := h
theorem AV.other {a b : Addr} {k : ClassId} {ty : FieldType} {vs : List Value} {dv v : Value} {sl : Nat} {h' : Heap} (F : AV Z h b k ty vs dv) (W : Wr h h' a sl v) (q : b ≠ a) : AV Z h' b k ty vs dv := ⟨F.1.other W q, F.2⟩
theorem AV.keep {a : Addr} {k : ClassId} {ty : FieldType} {vs : List Value} {dv : Value} {h' : Heap} {ws : List Addr} (F : AV Z h a k ty vs dv) (Kp : Keep h h' ws) (q : a ∉ ws) : AV Z h' a k ty vs dv := ⟨F.1.keep Kp q, F.2⟩
theorem AV.cast {a : Addr} {k : ClassId} {ty : FieldType} {vs vs' : List Value} {dv : Value} (F : AV Z h a k ty vs dv) (e : vs = vs') : AV Z h a k ty vs' dv := e ▸ F
theorem getD_of {vs : List Value} {i : Nat} {v dv : Value} (h : vs[i]? = some v) : vs.getD i dv = v := by simp [List.getD_eq_getElem?_getD, h]
theorem lt_of_get {α : Type} {vs : List α} {i : Nat} {v : α} (h : vs[i]? = some v) : i < vs.length := (List.getElem?_eq_some_iff.mp h).1
theorem r_lengthV (C : Ctx l R Z own nm code maxL ret fl n0 kz K) {a : Addr} {k : ClassId} {ty : FieldType} {vs : List Value} {dv : Value} (hd : decode code pc = .ok (.arraylength, 1)) (hp : pc + 1 = pc') {n : Nat} (A : AV Z h a k ty vs dv) (hn : vs.length = n) (r : Run l R n0 Q K h cells slots pc' Ls (.int (i32 n) :: st)) : Run l R n0 Q K h cells slots pc Ls (.ref a :: st) := by
  subst hn
  exact r_arraylength C hd hp A.1 r
theorem r_aaloadA (C : Ctx l R Z own nm code maxL ret fl n0 kz K) {a : Addr} {cl : Cell} {ty : FieldType} {j : Int32} {v : Value} (hd : decode code pc = .ok (.aaload, 1)) (hp : pc + 1 = pc') (A : Arr Z h a cl ty) (hty : ty.isReference = true) (hin : ¬ (j < 0 ∨ cl.slots.size ≤ j.toNatClampNeg)) (hv : cl.slots[j.toNatClampNeg]? = some v) (r : Run l R n0 Q K h cells slots pc' Ls (v :: st)) : Run l R n0 Q K h cells slots pc Ls (.int j :: .ref a :: st) :=
  Run.pure C (Or.inr trivial) (fun p e s m args below meth c hx hby hown hZ T locs X eT target kk => by
    subst hp
    exact X.aaload hx (by rw [eT]; exact A.1) (State.isArrayOf_alike hZ.alike A.2.1) hty A.2.2 hin hv (g := mkF m pc Ls (.int j :: .ref a :: st)) rfl rfl (hb hby hd) _ kk) r
theorem r_ialoadV (C : Ctx l R Z own nm code maxL ret fl n0 kz K) {a : Addr} {k : ClassId} {j : Int32} {i : Nat} {vs : List Value} {dv v : Value} (hd : decode code pc = .ok (.iaload, 1)) (hp : pc + 1 = pc') (A : AV Z h a k .int vs dv) (hj : j = i32 i) (hv : vs[i]? = some v) (r : Run l R n0 Q K h cells slots pc' Ls (v :: st)) : Run l R n0 Q K h cells slots pc Ls (.int j :: .ref a :: st) := by
  subst hj
  have hi := lt_of_get hv
  exact r_iaload C hd hp A.1 (inb_i hi A.2) (by rw [i32_clamp (Nat.lt_trans hi A.2)]; exact getD_of hv) r
theorem r_laloadV (C : Ctx l R Z own nm code maxL ret fl n0 kz K) {a : Addr} {k : ClassId} {j : Int32} {i : Nat} {vs : List Value} {dv v : Value} (hd : decode code pc = .ok (.laload, 1)) (hp : pc + 1 = pc') (A : AV Z h a k .long vs dv) (hj : j = i32 i) (hv : vs[i]? = some v) (r : Run l R n0 Q K h cells slots pc' Ls (v :: st)) : Run l R n0 Q K h cells slots pc Ls (.int j :: .ref a :: st) := by
  subst hj
  have hi := lt_of_get hv
  exact r_laload C hd hp A.1 (inb_i hi A.2) (by rw [i32_clamp (Nat.lt_trans hi A.2)]; exact getD_of hv) r
theorem r_caloadV (C : Ctx l R Z own nm code maxL ret fl n0 kz K) {a : Addr} {k : ClassId} {j : Int32} {i : Nat} {vs : List Value} {dv v : Value} (hd : decode code pc = .ok (.caload, 1)) (hp : pc + 1 = pc') (A : AV Z h a k .char vs dv) (hj : j = i32 i) (hv : vs[i]? = some v) (r : Run l R n0 Q K h cells slots pc' Ls (v :: st)) : Run l R n0 Q K h cells slots pc Ls (.int j :: .ref a :: st) := by
  subst hj
  have hi := lt_of_get hv
  exact r_caload C hd hp A.1 (inb_i hi A.2) (by rw [i32_clamp (Nat.lt_trans hi A.2)]; exact getD_of hv) r
theorem r_baloadV (C : Ctx l R Z own nm code maxL ret fl n0 kz K) {a : Addr} {k : ClassId} {j : Int32} {i : Nat} {vs : List Value} {dv v : Value} (hd : decode code pc = .ok (.baload, 1)) (hp : pc + 1 = pc') (A : AV Z h a k .byte vs dv) (hj : j = i32 i) (hv : vs[i]? = some v) (r : Run l R n0 Q K h cells slots pc' Ls (v :: st)) : Run l R n0 Q K h cells slots pc Ls (.int j :: .ref a :: st) := by
  subst hj
  have hi := lt_of_get hv
  exact r_baload C hd hp A.1 (inb_i hi A.2) (by rw [i32_clamp (Nat.lt_trans hi A.2)]; exact getD_of hv) r
theorem r_baloadZV (C : Ctx l R Z own nm code maxL ret fl n0 kz K) {a : Addr} {k : ClassId} {j : Int32} {i : Nat} {vs : List Value} {dv v : Value} (hd : decode code pc = .ok (.baload, 1)) (hp : pc + 1 = pc') (A : AV Z h a k .boolean vs dv) (hj : j = i32 i) (hv : vs[i]? = some v) (r : Run l R n0 Q K h cells slots pc' Ls (v :: st)) : Run l R n0 Q K h cells slots pc Ls (.int j :: .ref a :: st) := by
  subst hj
  have hi := lt_of_get hv
  exact r_baloadZ C hd hp A.1 (inb_i hi A.2) (by rw [i32_clamp (Nat.lt_trans hi A.2)]; exact getD_of hv) r
theorem r_aaloadV (C : Ctx l R Z own nm code maxL ret fl n0 kz K) {a : Addr} {k : ClassId} {ty : FieldType} {j : Int32} {i : Nat} {vs : List Value} {dv v : Value} (hd : decode code pc = .ok (.aaload, 1)) (hp : pc + 1 = pc') (A : AV Z h a k ty vs dv) (hty : ty.isReference = true) (hj : j = i32 i) (hv : vs[i]? = some v) (r : Run l R n0 Q K h cells slots pc' Ls (v :: st)) : Run l R n0 Q K h cells slots pc Ls (.int j :: .ref a :: st) := by
  subst hj
  have hi := lt_of_get hv
  exact r_aaload C hd hp A.1 hty (inb_i hi A.2) (by rw [i32_clamp (Nat.lt_trans hi A.2)]; exact getD_of hv) r
theorem r_iastoreV (C : Ctx l R Z own nm code maxL ret true n0 kz K) {a : Addr} {k : ClassId} {j : Int32} {i : Nat} {x : Int32} {vs : List Value} {dv : Value} (hd : decode code pc = .ok (.iastore, 1)) (hp : pc + 1 = pc') (A : AV Z h a k .int vs dv) (hj : j = i32 i) (hi : i < vs.length) (ge : n0 ≤ a) (r : ∀ h', Wr h h' a i (.int x) → AV Z h' a k .int (vs.set i (.int x)) dv → Run l R n0 Q K h' cells slots pc' Ls st) : Run l R n0 Q K h cells slots pc Ls (.int x :: .int j :: .ref a :: st) := by
  subst hj
  have e := i32_clamp (Nat.lt_trans hi A.2)
  refine r_iastore C hd hp A.1 (inb_i hi A.2) (by rw [e]; exact hi) ge fun h' W A' => ?_
  rw [e] at W A'
  exact r h' W ⟨by rw [List.length_set]; exact A', by rw [List.length_set]; exact A.2⟩
theorem r_lastoreV (C : Ctx l R Z own nm code maxL ret true n0 kz K) {a : Addr} {k : ClassId} {j : Int32} {i : Nat} {x : Int64} {vs : List Value} {dv : Value} (hd : decode code pc = .ok (.lastore, 1)) (hp : pc + 1 = pc') (A : AV Z h a k .long vs dv) (hj : j = i32 i) (hi : i < vs.length) (ge : n0 ≤ a) (r : ∀ h', Wr h h' a i (.long x) → AV Z h' a k .long (vs.set i (.long x)) dv → Run l R n0 Q K h' cells slots pc' Ls st) : Run l R n0 Q K h cells slots pc Ls (.long x :: .int j :: .ref a :: st) := by
  subst hj
  have e := i32_clamp (Nat.lt_trans hi A.2)
  refine r_lastore C hd hp A.1 (inb_i hi A.2) (by rw [e]; exact hi) ge fun h' W A' => ?_
  rw [e] at W A'
  exact r h' W ⟨by rw [List.length_set]; exact A', by rw [List.length_set]; exact A.2⟩
theorem r_castoreV (C : Ctx l R Z own nm code maxL ret true n0 kz K) {a : Addr} {k : ClassId} {j x : Int32} {i : Nat} {vs : List Value} {dv : Value} (hd : decode code pc = .ok (.castore, 1)) (hp : pc + 1 = pc') (A : AV Z h a k .char vs dv) (hj : j = i32 i) (hi : i < vs.length) (hf : fits .char (.int (nar .char x)) = true) (ge : n0 ≤ a) (r : ∀ h', Wr h h' a i (.int (nar .char x)) → AV Z h' a k .char (vs.set i (.int (nar .char x))) dv → Run l R n0 Q K h' cells slots pc' Ls st) : Run l R n0 Q K h cells slots pc Ls (.int x :: .int j :: .ref a :: st) := by
  subst hj
  have e := i32_clamp (Nat.lt_trans hi A.2)
  refine r_castore C hd hp A.1 (inb_i hi A.2) (by rw [e]; exact hi) hf ge fun h' W A' => ?_
  rw [e] at W A'
  exact r h' W ⟨by rw [List.length_set]; exact A', by rw [List.length_set]; exact A.2⟩
theorem r_bastoreV (C : Ctx l R Z own nm code maxL ret true n0 kz K) {a : Addr} {k : ClassId} {j x : Int32} {i : Nat} {vs : List Value} {dv : Value} (hd : decode code pc = .ok (.bastore, 1)) (hp : pc + 1 = pc') (A : AV Z h a k .byte vs dv) (hj : j = i32 i) (hi : i < vs.length) (hf : fits .byte (.int (nar .byte x)) = true) (ge : n0 ≤ a) (r : ∀ h', Wr h h' a i (.int (nar .byte x)) → AV Z h' a k .byte (vs.set i (.int (nar .byte x))) dv → Run l R n0 Q K h' cells slots pc' Ls st) : Run l R n0 Q K h cells slots pc Ls (.int x :: .int j :: .ref a :: st) := by
  subst hj
  have e := i32_clamp (Nat.lt_trans hi A.2)
  refine r_bastore C hd hp A.1 (inb_i hi A.2) (by rw [e]; exact hi) hf ge fun h' W A' => ?_
  rw [e] at W A'
  exact r h' W ⟨by rw [List.length_set]; exact A', by rw [List.length_set]; exact A.2⟩
theorem r_bastoreZV (C : Ctx l R Z own nm code maxL ret true n0 kz K) {a : Addr} {k : ClassId} {j x : Int32} {i : Nat} {vs : List Value} {dv : Value} (hd : decode code pc = .ok (.bastore, 1)) (hp : pc + 1 = pc') (A : AV Z h a k .boolean vs dv) (hj : j = i32 i) (hi : i < vs.length) (hf : fits .boolean (.int (nar .boolean x)) = true) (ge : n0 ≤ a) (r : ∀ h', Wr h h' a i (.int (nar .boolean x)) → AV Z h' a k .boolean (vs.set i (.int (nar .boolean x))) dv → Run l R n0 Q K h' cells slots pc' Ls st) : Run l R n0 Q K h cells slots pc Ls (.int x :: .int j :: .ref a :: st) := by
  subst hj
  have e := i32_clamp (Nat.lt_trans hi A.2)
  refine r_bastoreZ C hd hp A.1 (inb_i hi A.2) (by rw [e]; exact hi) hf ge fun h' W A' => ?_
  rw [e] at W A'
  exact r h' W ⟨by rw [List.length_set]; exact A', by rw [List.length_set]; exact A.2⟩
theorem r_aastoreV (C : Ctx l R Z own nm code maxL ret true n0 kz K) {a : Addr} {k : ClassId} {ty : FieldType} {j : Int32} {i : Nat} {v : Value} {vs : List Value} {dv : Value} (hd : decode code pc = .ok (.aastore, 1)) (hp : pc + 1 = pc') (A : AV Z h a k ty vs dv) (hty : ty.isReference = true) (hj : j = i32 i) (hi : i < vs.length) (F : Stv Z h k v) (ge : n0 ≤ a) (r : ∀ h', Wr h h' a i v → AV Z h' a k ty (vs.set i v) dv → Run l R n0 Q K h' cells slots pc' Ls st) : Run l R n0 Q K h cells slots pc Ls (v :: .int j :: .ref a :: st) := by
  subst hj
  have e := i32_clamp (Nat.lt_trans hi A.2)
  refine r_aastore C hd hp A.1 hty (inb_i hi A.2) (by rw [e]; exact hi) F ge fun h' W A' => ?_
  rw [e] at W A'
  exact r h' W ⟨by rw [List.length_set]; exact A', by rw [List.length_set]; exact A.2⟩
theorem av_new {a : Addr} {k : ClassId} {ty : FieldType} {m : Nat} {dv : Value} (hm : m < 2147483648) (A : Arv Z h a k ty (i32 m) [] dv) : AV Z h a k ty (List.replicate m dv) dv := by
  refine ⟨?_, by simpa using hm⟩
  rw [List.length_replicate]
  have := pad_rep [] dv m
  simp only [List.nil_append] at this
  exact A.pad this
theorem r_newarrayV (C : Ctx l R Z own nm code maxL ret fl n0 kz K) {aty : ArrayType} {ty : FieldType} {j : Int32} {m cap : Nat} (hd : decode code pc = .ok (.newarray aty, 2)) (hp : pc + 2 = pc') (hty : newarray.typeOf aty = ty) (w : (Jvm.Cond.arrayClass ty).before a0 Z = true) (hj : j = i32 m) (hcap : m ≤ cap) (hb' : cap * 8 ≤ 536870912) (hc : cells + 1 ≤ R.cells) (hl : slots + cap ≤ R.slots)
    (r : ∀ h' a k, a = h.size → Ext h h' → AV Z h' a k ty (List.replicate m (defaultValue ty)) (defaultValue ty) → Run l R n0 Q K h' (cells + 1) (slots + cap) pc' Ls (.ref a :: st)) : Run l R n0 Q K h cells slots pc Ls (.int j :: st) := by
  subst hj
  have hm : m < 2147483648 := by omega
  exact r_newarray C hd hp hty w (i32_nn hm) (by rw [i32_clamp hm]; exact hcap) hb' hc hl fun h' a k e E A => r h' a k e E (av_new hm A)
theorem r_anewarrayV (C : Ctx l R Z own nm code maxL ret fl n0 kz K) {idx : Nat} {Cn : String} {j : Int32} {m cap : Nat} (hd : decode code pc = .ok (.anewarray idx, 3)) (hp : pc + 3 = pc') (w : (Jvm.Cond.classLink own idx Cn).before a0 Z = true) (w2 : (Jvm.Cond.arrayOver (.object Cn)).before a0 Z = true) (hj : j = i32 m) (hcap : m ≤ cap) (hb' : cap * 8 ≤ 536870912) (hc : cells + 1 ≤ R.cells) (hl : slots + cap ≤ R.slots)
    (r : ∀ h' a k, a = h.size → Ext h h' → AV Z h' a k (.object Cn) (List.replicate m .null) .null → Ovr Z k Cn → Run l R n0 Q K h' (cells + 1) (slots + cap) pc' Ls (.ref a :: st)) : Run l R n0 Q K h cells slots pc Ls (.int j :: st) := by
  subst hj
  have hm : m < 2147483648 := by omega
  exact r_anewarray C hd hp w w2 (i32_nn hm) (by rw [i32_clamp hm]; exact hcap) hb' hc hl fun h' a k e E A O => r h' a k e E (av_new hm A) O
theorem Keep.mono {h0 h' : Heap} {ws ws' : List Addr} (Kp : Keep h0 h' ws) (q : ∀ x ∈ ws, x ∈ ws') : Keep h0 h' ws' := ⟨Kp.1, fun x c hx r => Kp.2.1 x c hx fun z => r (q x z), Kp.2.2⟩
theorem Sta.keep {h' : Heap} {ws : List Addr} {Cn n d : String} {v : Value} (X : Old Z n0 h) (F : Sta Z Z.heap Cn n d v) : Sta Z h Cn n d v := F.ext X.2
/-! String constants -/
abbrev STR : String := "java/lang/String"
/-- a Latin-1 String: its object, its byte[] -/
def Str (Z : State) (h : Heap) (a b : Nat) (k : ClassId) (bs : List Int32) : Prop := Exa Z h a "java/lang/String" ∧ Fld Z h a "java/lang/String" "coder" "B" (.int 0) ∧ Fld Z h a "java/lang/String" "value" "[B" (.ref b) ∧ AV Z h b k .byte (bs.map Value.int) (.int 0)
theorem Str.ext {a b : Nat} {k : ClassId} {bs : List Int32} {h' : Heap} (F : Str Z h a b k bs) (E : Ext h h') : Str Z h' a b k bs := ⟨F.1.ext E, F.2.1.ext E, F.2.2.1.ext E, F.2.2.2.ext E⟩
theorem Str.keep {a b : Nat} {k : ClassId} {bs : List Int32} {h' : Heap} {ws : List Addr} (F : Str Z h a b k bs) (Kp : Keep h h' ws) (q1 : a ∉ ws) (q2 : b ∉ ws) : Str Z h' a b k bs := ⟨F.1.keep Kp, F.2.1.keep Kp q1, F.2.2.1.keep Kp q1, F.2.2.2.keep Kp q2⟩
theorem Str.other {a b x : Nat} {k : ClassId} {bs : List Int32} {h' : Heap} {sl : Nat} {v : Value} (F : Str Z h a b k bs) (W : Wr h h' x sl v) (q1 : a ≠ x) (q2 : b ≠ x) : Str Z h' a b k bs := ⟨F.1.wr W, F.2.1.other W (Or.inl q1), F.2.2.1.other W (Or.inl q1), F.2.2.2.other W q2⟩
theorem Str.lt {a b : Nat} {k : ClassId} {bs : List Int32} (F : Str Z h a b k bs) : a < h.size ∧ b < h.size := ⟨F.1.lt, F.2.2.2.lt⟩
theorem Lit.warm {vm vm' : Vm} {cn : String} {i : Nat} {a : Addr} (L : Lit (Z.setVm vm) cn i a) {s : State} (hW : (s.setVm vm).WarmedH vm') : Lit (Z.setVm vm') cn i a := (State.resolvedAt?_warmed39 (s := s.setVm vm) hW.wide L : (s.setVm vm').resolvedAt? cn i = _)
theorem IB.warm {vm vm' : Vm} {Ts : List String} (I : IB Z vm Ts) {s : State} (hW : (s.setVm vm).WarmedH vm') : IB Z vm' Ts := by
  obtain ⟨more, e, hm⟩ := I
  exact ⟨more, (hW.interned_eq).trans e, hm⟩
theorem KS_Kw {Pl : List Loc → Prop} {vm : Vm} : KS (Kw K Pl vm) = (KS K).setVm vm := by
  obtain ⟨_, En, p, e, s, m, args, below, meth, c⟩ := K; rfl
/-- the first load of a String constant, nothing yet written to what stood at the body's start -/
theorem r_ldcS {h0 : Heap} {vm : Vm} {k : Nat} {idx n : Nat} {text : String} {Ts : List String} {bs : List Int32} (W : Wb l R Z own nm code maxL ret n0 h0 K) (D : Sn K vm k) (hk : k ≤ h.size) (hd : decode code pc = .ok (.ldc idx, 2)) (hp : pc + 2 = pc') (w : (Jvm.Cond.stringLink own idx text).before a0 Z = true) (wS : ∀ a ∈ Bundle.stringAtoms, a.before a0 Z = true) (hkeep : ∀ (b : Addr) (cl : Cell), Z.heap[b]? = some cl → h0[b]? = some cl)
    (I : IB Z vm Ts) (hnot : text ∉ Ts) (hh : Jvm.Lit.constHeld Z own idx) (hcw : Jvm.Lit.compactW.before a0 Z = true) (ht : (∀ c ∈ text.toList, c.toNat < 256) ∧ text.toList.map (fun c => Value.int (Jvm.Lit.byteI c.toNat.toUInt16)) = bs.map Value.int) (hbl : bs.length < 2147483648) (hn : 4 * text.toList.length ≤ n) (hbig : n ≤ 536870912) (hc : cells + 2 ≤ R.cells) (hl : slots + (n + 4) ≤ R.slots)
    (r : ∀ vm' k' h' a b kb, Sn K vm' k' → k' ≤ h'.size → Ext h h' → Str Z h' a b kb bs → IB Z vm' (text :: Ts) → Lit (Z.setVm vm') own idx a → (KS K).Since vm' k' → Run l R n0 Q (Kw K (· = []) vm') h' (cells + 2) (slots + (n + 4)) pc' Ls (.ref a :: st)) : Run l R n0 Q (Kw K (· = []) vm) h cells slots pc Ls st := by
  obtain ⟨Pl, En, p, e, s, m, args, below, meth, c⟩ := K
  intro T locs X eT N
  subst hp
  obtain ⟨w1, w2, w3, w4, w5, w6, w7, w8, w9, w10⟩ := W
  have N' : locs = [] := N
  have D' : s.Since vm k := D
  have hZ : Z.Warmed39 vm := State.Warmed39.trans w2 D'.1
  have hown : vm.findClass own = some m.cls := by rw [D'.1.alike.findClass]; exact w3
  have z31 : (i32 bs.length).toNatClampNeg = (bs.map Value.int).length := by rw [i32_clamp hbl, List.length_map]
  obtain ⟨a, T', h', k1, b, kb, r1, r2, r3, r4, r5, r6, r7, r8, r9, r10, r11, r12, r13, r14, r15, r16⟩ := ldcSVL (Z := Z) (s := s) X w1 hZ hown w wS eT D' hk (by rw [N']; exact Fr.nil _) (fun b cl q => by rw [w9]; exact hkeep b cl q) I hnot hh hcw ht (i32_nn hbl) z31 (g := mkF m pc Ls st) rfl (hb w4 hd) hn hbig hc hl
  obtain ⟨s2, o, q1, q2⟩ := r T'.vm k1 h' a b kb r4 r5 r3 ⟨r8, r9, r10, ⟨by rw [List.length_map]; exact r11, by rw [List.length_map]; exact hbl⟩⟩ r14 r15 r4 T' locs r1 r2 N
  exact ⟨s2, o, r16 _ q1, q2⟩
theorem r_ldcA {Pl : List Loc → Prop} {h0 : Heap} {vm : Vm} {k : Nat} {idx : Nat} {text : String} {a : Addr} (W : Wb l R Z own nm code maxL ret n0 h0 K) (D : Sn K vm k) (hd : decode code pc = .ok (.ldc idx, 2)) (hp : pc + 2 = pc') (w : (Jvm.Cond.stringLink own idx text).before a0 Z = true) (L : Lit (Z.setVm vm) own idx a)
    (r : Run l R n0 Q (Kw K Pl vm) h cells slots pc' Ls (.ref a :: st)) : Run l R n0 Q (Kw K Pl vm) h cells slots pc Ls st := by
  obtain ⟨_, En, p, e, s, m, args, below, meth, c⟩ := K
  intro T locs X eT N
  subst hp
  obtain ⟨w1, w2, w3, w4, w5, w6, w7, w8, w9, w10⟩ := W
  have D' : s.Since vm k := D
  have hZ : Z.Warmed39 vm := State.Warmed39.trans w2 D'.1
  have hown : vm.findClass own = some m.cls := by rw [D'.1.alike.findClass]; exact w3
  obtain ⟨s2, o, q1, q2⟩ := r T locs X eT N
  exact ⟨s2, o, ldcAgain (Z := Z) (s := s) X w1 hZ hown w L (g := mkF m pc Ls st) rfl (hb w4 hd) _ q1, q2⟩
theorem ConW.back {y : MethodName} {bytes : ByteArray} {mL : Nat} {rt : Option FieldType} {rm : Room} {as : Array Value} {V : Vm → Prop} {Q' : Option Value → Heap → Vm → Prop} {len W : Nat} {p : Program} {e : Env} {below : List Frame} {s : State} {args : Array Value} (M : ConW l [] y bytes mL rt rm Z as h n0 V Q') (hZ : Z.Warmed39 s.vm) (wc : (Jvm.Cond.code y bytes mL rt).before a0 Z = true) (wz : (Jvm.Cond.initialized y.cls).before a0 Z = true) (hf : rm.frames + 1 ≤ R.frames) (hl : W + (mL + 11) + rm.locals ≤ R.locals) :
    BackS l R p e below s args y len W (fun A a => a = as ∧ A.U.heap = h ∧ A.cells + rm.cells ≤ R.cells ∧ A.slots + rm.slots ≤ R.slots ∧ V A.U.vm) (fun A _ v B => ∃ L, (Q' v B.U.heap B.U.vm ∧ Fr n0 L) ∧ B.locs = A.locs ++ L ∧ B.cells = A.cells + rm.cells ∧ B.slots = A.slots + rm.slots) :=
  BackS.of_freeW (bytes := bytes) (maxL := mL) (ret := rt) (E := fun _ _ o t L k n => k = rm.cells ∧ n = rm.slots ∧ ∃ v, o = .returned v ∧ (Q' v t.heap t.vm ∧ Fr n0 L)) M hf hl
    (fun m meth c A a Y hp => have hU : Z.Warmed39 A.U.vm := wtrans hZ Y.warmed
      ⟨by show (Jvm.Cond.and _ .tt).before a A.U = true; rw [Cond.before_and, mv hU wc]; rfl, mv hU wc, mv hU wz, hp.2.2.1, hp.2.2.2.1⟩)
    (fun m meth c A a g mk Y hp => ⟨hp.1, wtrans hZ Y.warmed, hp.2.1, hp.2.2.2.2⟩) (fun _ _ _ _ _ _ _ _ _ => trivial)
    (fun _ _ _ _ ⟨v, L, h1, h2, h3⟩ => ⟨L, _, _, h3, rfl, rfl, v, h1, h2⟩)
    (fun m meth c A a g mk v t L k n Y hp _ _ ⟨e1, e2, v', e3, e4⟩ => by cases e3; subst e1 e2; exact ⟨L, e4, rfl, rfl, rfl⟩)
/-- a static method that may intern -/
theorem r_callSW {h0 : Heap} {vm : Vm} {k0 : Nat} {idx : Nat} {y : MethodName} {bytes : ByteArray} {mL : Nat} {rt : Option FieldType} {rm : Room} {argsL : List Value} {V : Vm → Prop} {Q' : Option Value → Heap → Vm → Prop} {ps : List FieldType} {rr : Option FieldType} {W cells' slots' : Nat} {stk : List Value}
    (B : Wb l R Z own nm code maxL ret n0 h0 K) (D : Sn K vm k0) (hk0 : k0 ≤ h.size) (M : ConW l [] y bytes mL rt rm Z argsL.toArray h n0 V Q') (hV : ∀ vm', ((KS K).setVm vm).WarmedH vm' → V vm') (hd : decode code pc = .ok (.invokestatic idx, 3)) (hp : pc + 3 = pc') (v1 : (Jvm.Cond.methodLink own idx y).before a0 Z = true) (v2 : (Jvm.Cond.static y).before a0 Z = true) (v3 : (Jvm.Cond.initialized y.cls).before a0 Z = true) (v4 : (Jvm.Cond.code y bytes mL rt).before a0 Z = true)
    (hy : y.cls ≠ "java/lang/invoke/MethodHandle" ∧ y.cls ≠ "java/lang/invoke/VarHandle") (pd : parseMethodDescriptor y.desc = some ⟨ps, rr⟩) (hlen : argsL.length = ps.length) (hst : stk = argsL.reverse ++ st) (hsz : Ls.size = maxL) (hW : (st.map fun v => v.category).sum ≤ W)
    (hf : rm.frames + 1 ≤ R.frames) (hlo : W + (mL + 11) + rm.locals ≤ R.locals) (hc : cells + rm.cells ≤ R.cells) (hs : slots + rm.slots ≤ R.slots) (ec : cells + rm.cells = cells') (es : slots + rm.slots = slots')
    (r : ∀ v h' vm', Q' v h' vm' → h.size ≤ h'.size → Sn K vm' h'.size → Run l R n0 Q (Kw K (Fr n0) vm') h' cells' slots' pc' Ls (v.toList ++ st)) : Run l R n0 Q (Kw K (Fr n0) vm) h cells slots pc Ls stk := by
  obtain ⟨Pl, En, p, e, s, m, args, below, meth, c⟩ := K
  intro T locs X eT N
  obtain ⟨w1, w2, w3, w4, w5, w6, w7, w8, w9, w10⟩ := B
  have D' : s.Since vm k0 := D
  have hZ : Z.Warmed39 (s.setVm vm).vm := State.Warmed39.trans w2 D'.1
  have hown : (s.setVm vm).vm.findClass own = some m.cls := by rw [show (s.setVm vm).vm = vm from rfl, D'.1.alike.findClass]; exact w3
  have hx := w1
  subst hp hst ec es
  obtain ⟨v, _, ⟨T', L', k', n'⟩, -, X', hS, hgr, ⟨Lc, ⟨hQ, N'⟩, l', y', z'⟩, s'⟩ := callSS X hx (y := y) hown (mvT hZ v1) (mvT hZ v2) (mvT hZ v3) (mvT hZ v4) hy (ConW.back (W := W) M hZ v4 v3 hf hlo) (g := mkF m pc Ls (argsL.reverse ++ st)) rfl (by show Ls.size = _; rw [w5]; exact hsz) (argsL := argsL) (rest := st) (lenOf pd hlen) rfl (by show 2 * 0 + _ ≤ _; omega) (hb w4 hd) (fun vm₁ q => ⟨rfl, eT, hc, hs, hV vm₁ q⟩)
  dsimp only [Pt.U, Pt.locs, Pt.cells, Pt.slots] at X' hS hgr l' y' z' s' hQ N'
  subst l' y' z'
  have hk1 : k0 ≤ T.heap.size := by rw [eT]; exact hk0
  obtain ⟨s2, o, k1, k2⟩ := r v T'.heap T'.vm hQ (by rw [← eT]; exact hgr) (D'.trans hS (Nat.le_trans hk1 hgr)) T' _ X' rfl (Fr.app N N')
  exact ⟨s2, o, s'.trans k1, k2⟩
/-- a constructor that may intern -/
theorem r_callIW {h0 : Heap} {vm : Vm} {k0 : Nat} {idx : Nat} {y : MethodName} {a : Addr} {bytes : ByteArray} {mL : Nat} {rt : Option FieldType} {rm : Room} {argsL : List Value} {V : Vm → Prop} {Q' : Option Value → Heap → Vm → Prop} {ps : List FieldType} {rr : Option FieldType} {W cells' slots' : Nat} {stk : List Value}
    (B : Wb l R Z own nm code maxL ret n0 h0 K) (D : Sn K vm k0) (hk0 : k0 ≤ h.size) (M : ConW l [] y bytes mL none rm Z (.ref a :: argsL).toArray h n0 V Q') (hV : ∀ vm', ((KS K).setVm vm).WarmedH vm' → V vm') (hd : decode code pc = .ok (.invokespecial idx, 3)) (hp : pc + 3 = pc') (v1 : (Jvm.Cond.methodLink own idx y).before a0 Z = true) (v2 : (Jvm.Cond.instanceMethod y).before a0 Z = true) (v3 : (Jvm.Cond.initialized y.cls).before a0 Z = true) (v4 : (Jvm.Cond.code y bytes mL none).before a0 Z = true) (hin : y.name = "<init>")
    (hy : y.cls ≠ "java/lang/invoke/MethodHandle" ∧ y.cls ≠ "java/lang/invoke/VarHandle") (pd : parseMethodDescriptor y.desc = some ⟨ps, rr⟩) (hlen : argsL.length = ps.length) (hst : stk = argsL.reverse ++ .ref a :: st) (hsz : Ls.size = maxL) (hW : (st.map fun v => v.category).sum ≤ W)
    (hf : rm.frames + 1 ≤ R.frames) (hlo : W + (mL + 11) + rm.locals ≤ R.locals) (hc : cells + rm.cells ≤ R.cells) (hs : slots + rm.slots ≤ R.slots) (ec : cells + rm.cells = cells') (es : slots + rm.slots = slots')
    (r : ∀ v h' vm', Q' v h' vm' → h.size ≤ h'.size → Sn K vm' h'.size → Run l R n0 Q (Kw K (Fr n0) vm') h' cells' slots' pc' Ls (v.toList ++ st)) : Run l R n0 Q (Kw K (Fr n0) vm) h cells slots pc Ls stk := by
  obtain ⟨Pl, En, p, e, s, m, args, below, meth, c⟩ := K
  intro T locs X eT N
  obtain ⟨w1, w2, w3, w4, w5, w6, w7, w8, w9, w10⟩ := B
  have D' : s.Since vm k0 := D
  have hZ : Z.Warmed39 (s.setVm vm).vm := State.Warmed39.trans w2 D'.1
  have hown : (s.setVm vm).vm.findClass own = some m.cls := by rw [show (s.setVm vm).vm = vm from rfl, D'.1.alike.findClass]; exact w3
  have hx := w1
  subst hp hst ec es
  obtain ⟨v, _, ⟨T', L', k', n'⟩, -, X', hS, hgr, ⟨Lc, ⟨hQ, N'⟩, l', y', z'⟩, s'⟩ := X.specialBackS hx (y := y) hin hown (mvT hZ v1) (mvT hZ v2) (mvT hZ v4) hy (ConW.back (W := W) M hZ v4 v3 hf hlo) (g := mkF m pc Ls (argsL.reverse ++ .ref a :: st)) rfl (by show Ls.size = _; rw [w5]; exact hsz) (Steps.refl _) (a := a) (argsL := argsL) (rest := st) (lenOf pd hlen) rfl (by show 2 * 0 + _ ≤ _; omega) (hb w4 hd) (fun vm₁ q => ⟨rfl, eT, hc, hs, hV vm₁ q⟩)
  dsimp only [Pt.U, Pt.locs, Pt.cells, Pt.slots] at X' hS hgr l' y' z' s' hQ N'
  subst l' y' z'
  have hk1 : k0 ≤ T.heap.size := by rw [eT]; exact hk0
  obtain ⟨s2, o, k1, k2⟩ := r v T'.heap T'.vm hQ (by rw [← eT]; exact hgr) (D'.trans hS (Nat.le_trans hk1 hgr)) T' _ X' rfl (Fr.app N N')
  exact ⟨s2, o, s'.trans k1, k2⟩
/-- an instance method that may intern -/
theorem r_callVW {h0 : Heap} {vm : Vm} {k0 : Nat} {idx : Nat} {y z : MethodName} {Cn : String} {a : Addr} {bytes : ByteArray} {mL : Nat} {rt : Option FieldType} {rm : Room} {argsL : List Value} {V : Vm → Prop} {Q' : Option Value → Heap → Vm → Prop} {ps : List FieldType} {rr : Option FieldType} {W cells' slots' : Nat} {stk : List Value}
    (B : Wb l R Z own nm code maxL ret n0 h0 K) (D : Sn K vm k0) (hk0 : k0 ≤ h.size) (M : ConW l [] z bytes mL rt rm Z (.ref a :: argsL).toArray h n0 V Q') (E : Exa Z h a Cn) (hV : ∀ vm', ((KS K).setVm vm).WarmedH vm' → V vm') (hd : decode code pc = .ok (.invokevirtual idx, 3)) (hp : pc + 3 = pc') (v1 : (Jvm.Cond.methodLink own idx y).before a0 Z = true) (vd : (Jvm.Cond.declares y).before a0 Z = true) (nf : ∀ (s : State) (args : Array Value), Z.Warmed39 s.vm → NotFace s y) (vs : (Jvm.Cond.selects Cn y z).before a0 Z = true) (v2 : (Jvm.Cond.instanceMethod z).before a0 Z = true) (v3 : (Jvm.Cond.initialized z.cls).before a0 Z = true) (v4 : (Jvm.Cond.code z bytes mL rt).before a0 Z = true)
    (hy : y.cls ≠ "java/lang/invoke/MethodHandle" ∧ y.cls ≠ "java/lang/invoke/VarHandle") (pd : parseMethodDescriptor y.desc = some ⟨ps, rr⟩) (hlen : argsL.length = ps.length) (hst : stk = argsL.reverse ++ .ref a :: st) (hsz : Ls.size = maxL) (hW : (st.map fun v => v.category).sum ≤ W)
    (hf : rm.frames + 1 ≤ R.frames) (hlo : W + (mL + 11) + rm.locals ≤ R.locals) (hc : cells + rm.cells ≤ R.cells) (hs : slots + rm.slots ≤ R.slots) (ec : cells + rm.cells = cells') (es : slots + rm.slots = slots')
    (r : ∀ v h' vm', Q' v h' vm' → h.size ≤ h'.size → Sn K vm' h'.size → Run l R n0 Q (Kw K (Fr n0) vm') h' cells' slots' pc' Ls (v.toList ++ st)) : Run l R n0 Q (Kw K (Fr n0) vm) h cells slots pc Ls stk := by
  obtain ⟨Pl, En, p, e, s, m, args, below, meth, c⟩ := K
  intro T locs X eT N
  obtain ⟨w1, w2, w3, w4, w5, w6, w7, w8, w9, w10⟩ := B
  have D' : s.Since vm k0 := D
  have hZ : Z.Warmed39 (s.setVm vm).vm := State.Warmed39.trans w2 D'.1
  have hown : (s.setVm vm).vm.findClass own = some m.cls := by rw [show (s.setVm vm).vm = vm from rfl, D'.1.alike.findClass]; exact w3
  have hx := w1
  subst hp hst ec es
  obtain ⟨cq, kq, qa, qb, qc⟩ := isOf (T := T) hZ eT E
  obtain ⟨v, _, ⟨T', L', k', n'⟩, -, X', hS, hgr, ⟨Lc, ⟨hQ, N'⟩, l', y', z'⟩, s'⟩ := X.virtualBackS hx (y := y) (z := z) hown (mvT hZ v1) (mvT hZ vd) (nf (s.setVm vm) args hZ) (mvT hZ vs) (mvT hZ v2) hy (ConW.back (W := W) M hZ v4 v3 hf hlo) qa qc (g := mkF m pc Ls (argsL.reverse ++ .ref a :: st)) rfl (by show Ls.size = _; rw [w5]; exact hsz) (Steps.refl _) (argsL := argsL) (rest := st) (lenOf pd hlen) rfl (by show 2 * 0 + _ ≤ _; omega) (hb w4 hd) (fun vm₁ q => ⟨rfl, eT, hc, hs, hV vm₁ q⟩)
  dsimp only [Pt.U, Pt.locs, Pt.cells, Pt.slots] at X' hS hgr l' y' z' s' hQ N'
  subst l' y' z'
  have hk1 : k0 ≤ T.heap.size := by rw [eT]; exact hk0
  obtain ⟨s2, o, k1, k2⟩ := r v T'.heap T'.vm hQ (by rw [← eT]; exact hgr) (D'.trans hS (Nat.le_trans hk1 hgr)) T' _ X' rfl (Fr.app N N')
  exact ⟨s2, o, s'.trans k1, k2⟩
theorem r_return (C : Ctx l R Z own nm code maxL none fl n0 kz K) (hd : decode code pc = .ok (.return_, 1)) (hc : cells ≤ R.cells) (hs : slots ≤ R.slots) (hk : kz ≤ h.size) (q : ∀ vm, (KS K).WarmedH vm → Q none h vm) : Run l R n0 Q K h cells slots pc Ls [] := by
  obtain ⟨Pl, En, p, e, s, m, args, below, meth, c⟩ := K
  intro T locs X eT N
  obtain ⟨hx, hZ, hown, hby, hml, hret, hnm, hlk, hcl, hfr, hen⟩ := C
  obtain ⟨fs, hr, hrun, hended, hW, hsame⟩ := X.leave (v := none) (fun _ => rfl)
  exact ⟨_, _, X.returnOut hx hret (hb hby hd) hr, hrun, hended, none, locs, rfl, ⟨by show Q none T.heap _; rw [eT]; exact q _ hW, hfr _ N⟩, hen _ _ _ (by show kz ≤ T.heap.size; rw [eT]; exact hk) hW (hsame.mono hc hs)⟩
theorem r_ret {t : FieldType} (C : Ctx l R Z own nm code maxL (some t) fl n0 kz K) {i : Instr} {v : Value} (hd : decode code pc = .ok (i, 1)) (hn : narrow t v = v)
    (hi : (i = .ireturn ∧ (t = .int ∨ t = .boolean ∨ t = .byte ∨ t = .char ∨ t = .short) ∧ ∃ z, v = .int z) ∨ (i = .lreturn ∧ t = .long ∧ ∃ z, v = .long z) ∨ (i = .dreturn ∧ t = .double ∧ ∃ z, v = .double z) ∨ (i = .freturn ∧ t = .float ∧ ∃ z, v = .float z) ∨ (i = .areturn ∧ t.isReference = true ∧ v.isRef = true))
    (hc : cells ≤ R.cells) (hs : slots ≤ R.slots) (hk : kz ≤ h.size) (q : ∀ vm, (KS K).WarmedH vm → Q (some v) h vm) : Run l R n0 Q K h cells slots pc Ls (v :: st) := by
  obtain ⟨Pl, En, p, e, s, m, args, below, meth, c⟩ := K
  intro T locs X eT N
  obtain ⟨hx, hZ, hown, hby, hml, hret, hnm, hlk, hcl, hfr, hen⟩ := C
  obtain ⟨fs, hr, hrun, hended, hW, hsame⟩ := X.leave (v := some v) (fun hh => by rw [hret] at hh; cases hh)
  exact ⟨_, _, retOut X hx hret hn hi (hb hby hd) hr, hrun, hended, some v, locs, rfl, ⟨by show Q (some v) T.heap _; rw [eT]; exact q _ hW, hfr _ N⟩, hen _ _ _ (by show kz ≤ T.heap.size; rw [eT]; exact hk) hW (hsame.mono hc hs)⟩
theorem r_ireturn (C : Ctx l R Z own nm code maxL (some .int) fl n0 kz K) {x : Int32} (hd : decode code pc = .ok (.ireturn, 1)) (hc : cells ≤ R.cells) (hs : slots ≤ R.slots) (hk : kz ≤ h.size) (q : ∀ vm, (KS K).WarmedH vm → Q (some (.int x)) h vm) : Run l R n0 Q K h cells slots pc Ls (.int x :: st) :=
  r_ret C hd rfl (Or.inl ⟨rfl, Or.inl rfl, _, rfl⟩) hc hs hk q
theorem r_zreturn (C : Ctx l R Z own nm code maxL (some .boolean) fl n0 kz K) {x : Int32} (hd : decode code pc = .ok (.ireturn, 1)) (hn : narrow .boolean (.int x) = .int x) (hc : cells ≤ R.cells) (hs : slots ≤ R.slots) (hk : kz ≤ h.size) (q : ∀ vm, (KS K).WarmedH vm → Q (some (.int x)) h vm) : Run l R n0 Q K h cells slots pc Ls (.int x :: st) :=
  r_ret C hd hn (Or.inl ⟨rfl, Or.inr (Or.inl rfl), _, rfl⟩) hc hs hk q
theorem r_creturn (C : Ctx l R Z own nm code maxL (some .char) fl n0 kz K) {x : Int32} (hd : decode code pc = .ok (.ireturn, 1)) (hn : narrow .char (.int x) = .int x) (hc : cells ≤ R.cells) (hs : slots ≤ R.slots) (hk : kz ≤ h.size) (q : ∀ vm, (KS K).WarmedH vm → Q (some (.int x)) h vm) : Run l R n0 Q K h cells slots pc Ls (.int x :: st) :=
  r_ret C hd hn (Or.inl ⟨rfl, Or.inr (Or.inr (Or.inr (Or.inl rfl))), _, rfl⟩) hc hs hk q
theorem r_breturn (C : Ctx l R Z own nm code maxL (some .byte) fl n0 kz K) {x : Int32} (hd : decode code pc = .ok (.ireturn, 1)) (hn : narrow .byte (.int x) = .int x) (hc : cells ≤ R.cells) (hs : slots ≤ R.slots) (hk : kz ≤ h.size) (q : ∀ vm, (KS K).WarmedH vm → Q (some (.int x)) h vm) : Run l R n0 Q K h cells slots pc Ls (.int x :: st) :=
  r_ret C hd hn (Or.inl ⟨rfl, Or.inr (Or.inr (Or.inl rfl)), _, rfl⟩) hc hs hk q
theorem r_lreturn (C : Ctx l R Z own nm code maxL (some .long) fl n0 kz K) {x : Int64} (hd : decode code pc = .ok (.lreturn, 1)) (hc : cells ≤ R.cells) (hs : slots ≤ R.slots) (hk : kz ≤ h.size) (q : ∀ vm, (KS K).WarmedH vm → Q (some (.long x)) h vm) : Run l R n0 Q K h cells slots pc Ls (.long x :: st) :=
  r_ret C hd rfl (Or.inr (Or.inl ⟨rfl, rfl, _, rfl⟩)) hc hs hk q
theorem r_areturn {t : FieldType} (C : Ctx l R Z own nm code maxL (some t) fl n0 kz K) {v : Value} (hd : decode code pc = .ok (.areturn, 1)) (ht : t.isReference = true) (hv : v.isRef = true) (hc : cells ≤ R.cells) (hs : slots ≤ R.slots) (hk : kz ≤ h.size) (q : ∀ vm, (KS K).WarmedH vm → Q (some v) h vm) : Run l R n0 Q K h cells slots pc Ls (v :: st) :=
  r_ret C hd (by rcases ref_cases hv with rfl | ⟨z, rfl⟩ <;> cases t <;> first | rfl | (cases ht; done)) (Or.inr (Or.inr (Or.inr (Or.inr ⟨rfl, ht, hv⟩)))) hc hs hk q
end
abbrev i64 (n : Nat) : Int64 := Int64.ofNat n
theorem i64_toInt {n : Nat} (h : n < 9223372036854775808) : (i64 n).toInt = (n : Int) := Int64.toInt_ofNat_of_lt h
theorem i64_lt {a b : Nat} (ha : a < 9223372036854775808) (hb : b < 9223372036854775808) : i64 a < i64 b ↔ a < b := by
  rw [Int64.lt_iff_toInt_lt, i64_toInt ha, i64_toInt hb]; omega
theorem i64_eq {a b : Nat} (ha : a < 9223372036854775808) (hb : b < 9223372036854775808) : i64 a = i64 b ↔ a = b := by
  rw [← Int64.toInt_inj, i64_toInt ha, i64_toInt hb]; omega
theorem i64_add (a b : Nat) : i64 a + i64 b = i64 (a + b) := (Int64.ofNat_add a b).symm
theorem i64_mul (a b : Nat) : i64 a * i64 b = i64 (a * b) := (Int64.ofNat_mul a b).symm
theorem i64_sub {a b : Nat} (h : b ≤ a) : i64 a - i64 b = i64 (a - b) := by
  have e : i64 a = i64 (a - b) + i64 b := by rw [i64_add]; congr 1; omega
  rw [e, Int64.add_sub_cancel]
theorem i64_div {a b : Nat} (ha : a < 9223372036854775808) (hb : b < 9223372036854775808) : i64 a / i64 b = i64 (a / b) := by
  apply Int64.toInt_inj.mp
  have hq : a / b < 9223372036854775808 := Nat.lt_of_le_of_lt (Nat.div_le_self a b) ha
  rw [Int64.toInt_div, i64_toInt ha, i64_toInt hb, i64_toInt hq, Int.tdiv_eq_ediv_of_nonneg (by omega)]
  have e : (a : Int) / (b : Int) = ((a / b : Nat) : Int) := rfl
  rw [e]; exact Int.bmod_eq_of_le (by have := Int.natCast_nonneg (a / b); omega) (by omega)
theorem i64_rem {a b : Nat} (ha : a < 9223372036854775808) (hb : b < 9223372036854775808) : i64 a - (i64 a / i64 b) * i64 b = i64 (a % b) := by
  rw [i64_div ha hb, i64_mul, i64_sub (Nat.div_mul_le_self a b)]
  congr 1
  have := Nat.div_add_mod a b
  rw [Nat.mul_comm] at this; omega
theorem i64_of32 {n : Nat} (h : n < 2147483648) : (i32 n).toInt64 = i64 n := by
  rw [← Int64.toInt_inj, Int32.toInt_toInt64, i32_toInt h, i64_toInt (by omega)]
theorem i32_of64 {n : Nat} : (i64 n).toInt32 = i32 n := Int64.toInt32_ofNat
theorem i64_and (x : Int64) : ∃ n, n < 9223372036854775808 ∧ x &&& 9223372036854775807 = i64 n := by
  have h : (x &&& 9223372036854775807).toBitVec.toNat ≤ 9223372036854775807 := by
    rw [Int64.toBitVec_and, BitVec.toNat_and]; exact Nat.and_le_right
  refine ⟨(x &&& 9223372036854775807).toBitVec.toNat, by omega, ?_⟩
  apply Int64.toBitVec_inj.mp
  apply BitVec.eq_of_toNat_eq
  show _ = _ % 2 ^ 64
  omega
theorem i32_and (x : Int32) : ∃ n, n < 2147483648 ∧ x &&& 2147483647 = i32 n := by
  have h : (x &&& 2147483647).toBitVec.toNat ≤ 2147483647 := by
    rw [Int32.toBitVec_and, BitVec.toNat_and]; exact Nat.and_le_right
  refine ⟨(x &&& 2147483647).toBitVec.toNat, by omega, ?_⟩
  apply Int32.toBitVec_inj.mp
  apply BitVec.eq_of_toNat_eq
  show _ = _ % 2 ^ 32
  omega
def by8 (c : Nat) : Int32 := (i32 c).toInt8.toInt32
abbrev ch16 (x : Int32) : Int32 := x.toUInt32.toUInt16.toUInt32.toInt32
theorem own_byF : ∀ c : Fin 256, (by8 c &&& 255).toUInt32.toUInt16.toUInt32.toInt32 = i32 c := by decide +kernel
theorem own_byte {c : Nat} (h : c < 256) : (by8 c &&& 255).toUInt32.toUInt16.toUInt32.toInt32 = i32 c := own_byF ⟨c, h⟩
theorem own_ch {c : Nat} (h : c < 65536) : (i32 c).toUInt32.toUInt16.toUInt32.toInt32 = i32 c := by
  apply Int32.toBitVec_inj.mp
  apply BitVec.eq_of_toNat_eq
  show ((UInt32.ofNat c).toUInt16.toUInt32).toNat = c % 2 ^ 32
  rw [UInt16.toNat_toUInt32, UInt32.toNat_toUInt16]
  show c % 2 ^ 32 % 2 ^ 16 = c % 2 ^ 32
  omega
theorem own_chn {c : Nat} (h : c < 65536) : nar .char (i32 c) = i32 c := own_ch h
theorem own_shr0 (x : Int32) : x >>> ((0 : Int32) &&& 31) = x := by
  show x >>> (0 : Int32) = x
  simp
theorem own_narF : ∀ c : Fin 65536, narrow .char (.int (i32 c)) = .int (i32 c) := fun c => by
  show Value.int ((i32 c).toUInt32.toUInt16.toUInt32.toInt32) = _
  rw [own_ch c.2]
theorem own_bynar (c : Nat) : nar .byte (by8 c) = by8 c := by
  show (by8 c).toInt8.toInt32 = _
  simp [by8]
theorem own_coder0 (n : Nat) : (XT.ushr (i32 n - i32 n) 31).toInt8.toInt32 = 0 := by
  rw [Int32.sub_self]; decide
/-- the statics that Strings read -/
def own_SS (Z : State) (cc : Int32) (fv : Value) : Prop := Sta Z Z.heap "java/lang/String" "COMPACT_STRINGS" "Z" (.int cc) ∧ cc ≠ 0 ∧ Sta Z Z.heap "jdk/internal/util/Preconditions" "SIOOBE_FORMATTER" "Ljava/util/function/BiFunction;" fv ∧ fv.isRef = true
/-- a Latin-1 String of these signs -/
abbrev St (Z : State) (h : Heap) (a b : Nat) (k : ClassId) (cs : List Nat) : Prop := Str Z h a b k (cs.map by8)
def vch (c : Nat) : Value := .int (i32 c)
theorem own_bget {cs : List Nat} {i c : Nat} (h : cs[i]? = some c) : ((cs.map by8).map Value.int)[i]? = some (.int (by8 c)) := by simp [h]
theorem own_cget {cs : List Nat} {i c : Nat} (h : cs[i]? = some c) : (cs.map vch)[i]? = some (.int (i32 c)) := by simp [h, vch]
theorem own_blen (cs : List Nat) : ((cs.map by8).map Value.int).length = cs.length := by simp
theorem own_clen (cs : List Nat) : (cs.map vch).length = cs.length := by simp
theorem own_tset {α : Type} (ws : List α) (i : Nat) (x : α) (h : i < ws.length) : (ws.set i x).take (i + 1) = ws.take i ++ [x] := by
  apply List.ext_getElem?
  intro j
  by_cases hj : j < i
  · rw [List.getElem?_take_of_lt (by omega), List.getElem?_set_ne (by omega), List.getElem?_append_left (by rw [List.length_take]; omega), List.getElem?_take_of_lt hj]
  · by_cases e : j = i
    · subst e
      rw [List.getElem?_take_of_lt (by omega), List.getElem?_set_self h, List.getElem?_append_right (by rw [List.length_take]; omega)]
      simp [List.length_take, Nat.min_eq_left (Nat.le_of_lt h)]
    · rw [List.getElem?_eq_none (by rw [List.length_take, List.length_set]; omega), List.getElem?_eq_none (by simp [List.length_take]; omega)]
theorem own_take1 {α : Type} {ws : List α} {i : Nat} {x : α} (h : ws[i]? = some x) : ws.take (i + 1) = ws.take i ++ [x] := by
  rw [List.take_add_one, h]; rfl
theorem own_drop1 {α : Type} {ws : List α} {i : Nat} {x : α} (h : ws[i]? = some x) : ws.drop i = x :: ws.drop (i + 1) := by
  obtain ⟨q, rfl⟩ := List.getElem?_eq_some_iff.mp h
  exact List.drop_eq_getElem_cons q
end Jvm.OwnKit
namespace Jvm.Pilot.@@N@@
open Jvm Jvm.ClassFile Sem Op Lib Jvm.Free Jvm.Stand Jvm.LawKit Jvm.RoadKit Jvm.OwnKit Bundle Jvm.Pilot.@@N@@.Jvm.D
theorem w0 {Z : State} {a0 : Array Value} (hw : ∀ d ∈ tables_1, d.before a0 Z = true) : ((Jvm.Cond.constantLong "com/example/wrange/wrange/FragmentParseNumberPinLaw" (9 : Nat) (9223372036854775807 : Int64)) : Jvm.Cond).before a0 Z = true := hw _ (List.mem_of_getElem? (i := 0) rfl)
theorem w1 {Z : State} {a0 : Array Value} (hw : ∀ d ∈ tables_1, d.before a0 Z = true) : ((Jvm.Cond.constantLong "com/example/wrange/wrange/FragmentParseNumberPinLaw" (11 : Nat) (1000000000000000000 : Int64)) : Jvm.Cond).before a0 Z = true := hw _ (List.mem_of_getElem? (i := 1) rfl)
theorem w2 {Z : State} {a0 : Array Value} (hw : ∀ d ∈ tables_1, d.before a0 Z = true) : ((Jvm.Cond.constant "com/example/wrange/wrange/FragmentParseNumberPinLaw" (13 : Nat) (2147483647 : Int32)) : Jvm.Cond).before a0 Z = true := hw _ (List.mem_of_getElem? (i := 2) rfl)
theorem w3 {Z : State} {a0 : Array Value} (hw : ∀ d ∈ tables_1, d.before a0 Z = true) : ((Jvm.Cond.stringLink "com/example/wrange/wrange/FragmentParseNumberPinLaw" (14 : Nat) "") : Jvm.Cond).before a0 Z = true := hw _ (List.mem_of_getElem? (i := 3) rfl)
theorem w4 {Z : State} {a0 : Array Value} (hw : ∀ d ∈ tables_1, d.before a0 Z = true) : ((Jvm.Cond.initialized "java/lang/String") : Jvm.Cond).before a0 Z = true := hw _ (List.mem_of_getElem? (i := 4) rfl)
theorem w5 {Z : State} {a0 : Array Value} (hw : ∀ d ∈ tables_1, d.before a0 Z = true) : ((Jvm.Cond.instantiable "java/lang/String" (4 : Nat)) : Jvm.Cond).before a0 Z = true := hw _ (List.mem_of_getElem? (i := 5) rfl)
theorem w6 {Z : State} {a0 : Array Value} (hw : ∀ d ∈ tables_1, d.before a0 Z = true) : ((Jvm.Cond.arrayClass Jvm.ClassFile.FieldType.byte) : Jvm.Cond).before a0 Z = true := hw _ (List.mem_of_getElem? (i := 6) rfl)
theorem w7 {Z : State} {a0 : Array Value} (hw : ∀ d ∈ tables_1, d.before a0 Z = true) : ((Jvm.Cond.laysFinal "java/lang/String" "java/lang/String" "value" "[B") : Jvm.Cond).before a0 Z = true := hw _ (List.mem_of_getElem? (i := 7) rfl)
theorem w8 {Z : State} {a0 : Array Value} (hw : ∀ d ∈ tables_1, d.before a0 Z = true) : ((Jvm.Cond.laysFinal "java/lang/String" "java/lang/String" "coder" "B") : Jvm.Cond).before a0 Z = true := hw _ (List.mem_of_getElem? (i := 8) rfl)
theorem w9 {Z : State} {a0 : Array Value} (hw : ∀ d ∈ tables_1, d.before a0 Z = true) : ((Jvm.Cond.soleField "java/lang/String" "value") : Jvm.Cond).before a0 Z = true := hw _ (List.mem_of_getElem? (i := 9) rfl)
theorem w10 {Z : State} {a0 : Array Value} (hw : ∀ d ∈ tables_1, d.before a0 Z = true) : ((Jvm.Cond.soleField "java/lang/String" "coder") : Jvm.Cond).before a0 Z = true := hw _ (List.mem_of_getElem? (i := 10) rfl)
theorem w11 {Z : State} {a0 : Array Value} (hw : ∀ d ∈ tables_1, d.before a0 Z = true) : ((Jvm.Cond.methodLink "com/example/wrange/wrange/FragmentParseNumberPinLaw" (16 : Nat) ({ cls := "com/example/wrange/wrange/Fragment", name := "parseNumber", desc := "(Ljava/lang/String;)J" } : Jvm.MethodName)) : Jvm.Cond).before a0 Z = true := hw _ (List.mem_of_getElem? (i := 11) rfl)
theorem w12 {Z : State} {a0 : Array Value} (hw : ∀ d ∈ tables_1, d.before a0 Z = true) : ((Jvm.Cond.static ({ cls := "com/example/wrange/wrange/Fragment", name := "parseNumber", desc := "(Ljava/lang/String;)J" } : Jvm.MethodName)) : Jvm.Cond).before a0 Z = true := hw _ (List.mem_of_getElem? (i := 12) rfl)
theorem w13 {Z : State} {a0 : Array Value} (hw : ∀ d ∈ tables_1, d.before a0 Z = true) : ((Jvm.Cond.initialized "com/example/wrange/wrange/Fragment") : Jvm.Cond).before a0 Z = true := hw _ (List.mem_of_getElem? (i := 13) rfl)
theorem w14 {Z : State} {a0 : Array Value} (hw : ∀ d ∈ tables_1, d.before a0 Z = true) : ((Jvm.Cond.code ({ cls := "com/example/wrange/wrange/Fragment", name := "parseNumber", desc := "(Ljava/lang/String;)J" } : Jvm.MethodName) prog_4_method_17_code (5 : Nat) (Option.some Jvm.ClassFile.FieldType.long)) : Jvm.Cond).before a0 Z = true := hw _ (List.mem_of_getElem? (i := 14) rfl)
theorem w15 {Z : State} {a0 : Array Value} (hw : ∀ d ∈ tables_1, d.before a0 Z = true) : ((Jvm.Cond.methodLink "com/example/wrange/wrange/Fragment" (273 : Nat) ({ cls := "java/lang/String", name := "length", desc := "()I" } : Jvm.MethodName)) : Jvm.Cond).before a0 Z = true := hw _ (List.mem_of_getElem? (i := 15) rfl)
theorem w16 {Z : State} {a0 : Array Value} (hw : ∀ d ∈ tables_1, d.before a0 Z = true) : ((Jvm.Cond.declares ({ cls := "java/lang/String", name := "length", desc := "()I" } : Jvm.MethodName)) : Jvm.Cond).before a0 Z = true := hw _ (List.mem_of_getElem? (i := 16) rfl)
theorem w17 {Z : State} {a0 : Array Value} (hw : ∀ d ∈ tables_1, d.before a0 Z = true) : ((Jvm.Cond.instanceMethod ({ cls := "java/lang/String", name := "length", desc := "()I" } : Jvm.MethodName)) : Jvm.Cond).before a0 Z = true := hw _ (List.mem_of_getElem? (i := 17) rfl)
theorem w18 {Z : State} {a0 : Array Value} (hw : ∀ d ∈ tables_1, d.before a0 Z = true) : ((Jvm.Cond.selects "java/lang/String" ({ cls := "java/lang/String", name := "length", desc := "()I" } : Jvm.MethodName) ({ cls := "java/lang/String", name := "length", desc := "()I" } : Jvm.MethodName)) : Jvm.Cond).before a0 Z = true := hw _ (List.mem_of_getElem? (i := 18) rfl)
theorem w19 {Z : State} {a0 : Array Value} (hw : ∀ d ∈ tables_1, d.before a0 Z = true) : ((Jvm.Cond.code ({ cls := "java/lang/String", name := "length", desc := "()I" } : Jvm.MethodName) jdk_42_method_54_code (1 : Nat) (Option.some Jvm.ClassFile.FieldType.int)) : Jvm.Cond).before a0 Z = true := hw _ (List.mem_of_getElem? (i := 19) rfl)
theorem w20 {Z : State} {a0 : Array Value} (hw : ∀ d ∈ tables_1, d.before a0 Z = true) : ((Jvm.Cond.fieldLink "java/lang/String" (9 : Nat) "java/lang/String" "value" "[B") : Jvm.Cond).before a0 Z = true := hw _ (List.mem_of_getElem? (i := 20) rfl)
theorem w21 {Z : State} {a0 : Array Value} (hw : ∀ d ∈ tables_1, d.before a0 Z = true) : ((Jvm.Cond.methodLink "java/lang/String" (335 : Nat) ({ cls := "java/lang/String", name := "coder", desc := "()B" } : Jvm.MethodName)) : Jvm.Cond).before a0 Z = true := hw _ (List.mem_of_getElem? (i := 21) rfl)
theorem w22 {Z : State} {a0 : Array Value} (hw : ∀ d ∈ tables_1, d.before a0 Z = true) : ((Jvm.Cond.declares ({ cls := "java/lang/String", name := "coder", desc := "()B" } : Jvm.MethodName)) : Jvm.Cond).before a0 Z = true := hw _ (List.mem_of_getElem? (i := 22) rfl)
theorem w23 {Z : State} {a0 : Array Value} (hw : ∀ d ∈ tables_1, d.before a0 Z = true) : ((Jvm.Cond.instanceMethod ({ cls := "java/lang/String", name := "coder", desc := "()B" } : Jvm.MethodName)) : Jvm.Cond).before a0 Z = true := hw _ (List.mem_of_getElem? (i := 23) rfl)
theorem w24 {Z : State} {a0 : Array Value} (hw : ∀ d ∈ tables_1, d.before a0 Z = true) : ((Jvm.Cond.selects "java/lang/String" ({ cls := "java/lang/String", name := "coder", desc := "()B" } : Jvm.MethodName) ({ cls := "java/lang/String", name := "coder", desc := "()B" } : Jvm.MethodName)) : Jvm.Cond).before a0 Z = true := hw _ (List.mem_of_getElem? (i := 24) rfl)
theorem w25 {Z : State} {a0 : Array Value} (hw : ∀ d ∈ tables_1, d.before a0 Z = true) : ((Jvm.Cond.code ({ cls := "java/lang/String", name := "coder", desc := "()B" } : Jvm.MethodName) jdk_42_method_152_code (1 : Nat) (Option.some Jvm.ClassFile.FieldType.byte)) : Jvm.Cond).before a0 Z = true := hw _ (List.mem_of_getElem? (i := 25) rfl)
theorem w26 {Z : State} {a0 : Array Value} (hw : ∀ d ∈ tables_1, d.before a0 Z = true) : ((Jvm.Cond.fieldLink "java/lang/String" (38 : Nat) "java/lang/String" "COMPACT_STRINGS" "Z") : Jvm.Cond).before a0 Z = true := hw _ (List.mem_of_getElem? (i := 26) rfl)
theorem w27 {Z : State} {a0 : Array Value} (hw : ∀ d ∈ tables_1, d.before a0 Z = true) : ((Jvm.Cond.fieldLink "java/lang/String" (15 : Nat) "java/lang/String" "coder" "B") : Jvm.Cond).before a0 Z = true := hw _ (List.mem_of_getElem? (i := 27) rfl)
theorem w28 {Z : State} {a0 : Array Value} (hw : ∀ d ∈ tables_1, d.before a0 Z = true) : ((Jvm.Cond.methodLink "com/example/wrange/wrange/FragmentParseNumberPinLaw" (22 : Nat) ({ cls := "java/lang/String", name := "valueOf", desc := "(C)Ljava/lang/String;" } : Jvm.MethodName)) : Jvm.Cond).before a0 Z = true := hw _ (List.mem_of_getElem? (i := 28) rfl)
theorem w29 {Z : State} {a0 : Array Value} (hw : ∀ d ∈ tables_1, d.before a0 Z = true) : ((Jvm.Cond.static ({ cls := "java/lang/String", name := "valueOf", desc := "(C)Ljava/lang/String;" } : Jvm.MethodName)) : Jvm.Cond).before a0 Z = true := hw _ (List.mem_of_getElem? (i := 29) rfl)
theorem w30 {Z : State} {a0 : Array Value} (hw : ∀ d ∈ tables_1, d.before a0 Z = true) : ((Jvm.Cond.code ({ cls := "java/lang/String", name := "valueOf", desc := "(C)Ljava/lang/String;" } : Jvm.MethodName) jdk_42_method_139_code (1 : Nat) (Option.some (Jvm.ClassFile.FieldType.object "java/lang/String"))) : Jvm.Cond).before a0 Z = true := hw _ (List.mem_of_getElem? (i := 30) rfl)
theorem w31 {Z : State} {a0 : Array Value} (hw : ∀ d ∈ tables_1, d.before a0 Z = true) : ((Jvm.Cond.methodLink "java/lang/String" (1015 : Nat) ({ cls := "java/lang/StringLatin1", name := "canEncode", desc := "(C)Z" } : Jvm.MethodName)) : Jvm.Cond).before a0 Z = true := hw _ (List.mem_of_getElem? (i := 31) rfl)
theorem w32 {Z : State} {a0 : Array Value} (hw : ∀ d ∈ tables_1, d.before a0 Z = true) : ((Jvm.Cond.static ({ cls := "java/lang/StringLatin1", name := "canEncode", desc := "(C)Z" } : Jvm.MethodName)) : Jvm.Cond).before a0 Z = true := hw _ (List.mem_of_getElem? (i := 32) rfl)
theorem w33 {Z : State} {a0 : Array Value} (hw : ∀ d ∈ tables_1, d.before a0 Z = true) : ((Jvm.Cond.initialized "java/lang/StringLatin1") : Jvm.Cond).before a0 Z = true := hw _ (List.mem_of_getElem? (i := 33) rfl)
theorem w34 {Z : State} {a0 : Array Value} (hw : ∀ d ∈ tables_1, d.before a0 Z = true) : ((Jvm.Cond.code ({ cls := "java/lang/StringLatin1", name := "canEncode", desc := "(C)Z" } : Jvm.MethodName) jdk_43_method_3_code (1 : Nat) (Option.some Jvm.ClassFile.FieldType.boolean)) : Jvm.Cond).before a0 Z = true := hw _ (List.mem_of_getElem? (i := 34) rfl)
theorem w35 {Z : State} {a0 : Array Value} (hw : ∀ d ∈ tables_1, d.before a0 Z = true) : ((Jvm.Cond.classLink "java/lang/String" (10 : Nat) "java/lang/String") : Jvm.Cond).before a0 Z = true := hw _ (List.mem_of_getElem? (i := 35) rfl)
theorem w36 {Z : State} {a0 : Array Value} (hw : ∀ d ∈ tables_1, d.before a0 Z = true) : ((Jvm.Cond.methodLink "java/lang/String" (1018 : Nat) ({ cls := "java/lang/StringLatin1", name := "toBytes", desc := "(C)[B" } : Jvm.MethodName)) : Jvm.Cond).before a0 Z = true := hw _ (List.mem_of_getElem? (i := 36) rfl)
theorem w37 {Z : State} {a0 : Array Value} (hw : ∀ d ∈ tables_1, d.before a0 Z = true) : ((Jvm.Cond.static ({ cls := "java/lang/StringLatin1", name := "toBytes", desc := "(C)[B" } : Jvm.MethodName)) : Jvm.Cond).before a0 Z = true := hw _ (List.mem_of_getElem? (i := 37) rfl)
theorem w38 {Z : State} {a0 : Array Value} (hw : ∀ d ∈ tables_1, d.before a0 Z = true) : ((Jvm.Cond.code ({ cls := "java/lang/StringLatin1", name := "toBytes", desc := "(C)[B" } : Jvm.MethodName) jdk_43_method_46_code (1 : Nat) (Option.some (Jvm.ClassFile.FieldType.array Jvm.ClassFile.FieldType.byte))) : Jvm.Cond).before a0 Z = true := hw _ (List.mem_of_getElem? (i := 38) rfl)
theorem w39 {Z : State} {a0 : Array Value} (hw : ∀ d ∈ tables_1, d.before a0 Z = true) : ((Jvm.Cond.methodLink "java/lang/String" (209 : Nat) ({ cls := "java/lang/String", name := "<init>", desc := "([BB)V" } : Jvm.MethodName)) : Jvm.Cond).before a0 Z = true := hw _ (List.mem_of_getElem? (i := 39) rfl)
theorem w40 {Z : State} {a0 : Array Value} (hw : ∀ d ∈ tables_1, d.before a0 Z = true) : ((Jvm.Cond.instanceMethod ({ cls := "java/lang/String", name := "<init>", desc := "([BB)V" } : Jvm.MethodName)) : Jvm.Cond).before a0 Z = true := hw _ (List.mem_of_getElem? (i := 40) rfl)
theorem w42 {Z : State} {a0 : Array Value} (hw : ∀ d ∈ tables_1, d.before a0 Z = true) : ((Jvm.Cond.code ({ cls := "java/lang/String", name := "<init>", desc := "([BB)V" } : Jvm.MethodName) jdk_42_method_151_code (3 : Nat) (Option.none : Option Jvm.ClassFile.FieldType)) : Jvm.Cond).before a0 Z = true := hw _ (List.mem_of_getElem? (i := 42) rfl)
theorem w43 {Z : State} {a0 : Array Value} (hw : ∀ d ∈ tables_1, d.before a0 Z = true) : ((Jvm.Cond.methodLink "java/lang/String" (1 : Nat) ({ cls := "java/lang/Object", name := "<init>", desc := "()V" } : Jvm.MethodName)) : Jvm.Cond).before a0 Z = true := hw _ (List.mem_of_getElem? (i := 43) rfl)
theorem w44 {Z : State} {a0 : Array Value} (hw : ∀ d ∈ tables_1, d.before a0 Z = true) : ((Jvm.Cond.instanceMethod ({ cls := "java/lang/Object", name := "<init>", desc := "()V" } : Jvm.MethodName)) : Jvm.Cond).before a0 Z = true := hw _ (List.mem_of_getElem? (i := 44) rfl)
theorem w45 {Z : State} {a0 : Array Value} (hw : ∀ d ∈ tables_1, d.before a0 Z = true) : ((Jvm.Cond.code ({ cls := "java/lang/Object", name := "<init>", desc := "()V" } : Jvm.MethodName) object_method_1_code (1 : Nat) (Option.none : Option Jvm.ClassFile.FieldType)) : Jvm.Cond).before a0 Z = true := hw _ (List.mem_of_getElem? (i := 45) rfl)
theorem w46 {Z : State} {a0 : Array Value} (hw : ∀ d ∈ tables_1, d.before a0 Z = true) : ((Jvm.Cond.methodLink "com/example/wrange/wrange/Fragment" (304 : Nat) ({ cls := "java/lang/String", name := "charAt", desc := "(I)C" } : Jvm.MethodName)) : Jvm.Cond).before a0 Z = true := hw _ (List.mem_of_getElem? (i := 46) rfl)
theorem w47 {Z : State} {a0 : Array Value} (hw : ∀ d ∈ tables_1, d.before a0 Z = true) : ((Jvm.Cond.declares ({ cls := "java/lang/String", name := "charAt", desc := "(I)C" } : Jvm.MethodName)) : Jvm.Cond).before a0 Z = true := hw _ (List.mem_of_getElem? (i := 47) rfl)
theorem w48 {Z : State} {a0 : Array Value} (hw : ∀ d ∈ tables_1, d.before a0 Z = true) : ((Jvm.Cond.instanceMethod ({ cls := "java/lang/String", name := "charAt", desc := "(I)C" } : Jvm.MethodName)) : Jvm.Cond).before a0 Z = true := hw _ (List.mem_of_getElem? (i := 48) rfl)
theorem w49 {Z : State} {a0 : Array Value} (hw : ∀ d ∈ tables_1, d.before a0 Z = true) : ((Jvm.Cond.selects "java/lang/String" ({ cls := "java/lang/String", name := "charAt", desc := "(I)C" } : Jvm.MethodName) ({ cls := "java/lang/String", name := "charAt", desc := "(I)C" } : Jvm.MethodName)) : Jvm.Cond).before a0 Z = true := hw _ (List.mem_of_getElem? (i := 49) rfl)
theorem w50 {Z : State} {a0 : Array Value} (hw : ∀ d ∈ tables_1, d.before a0 Z = true) : ((Jvm.Cond.code ({ cls := "java/lang/String", name := "charAt", desc := "(I)C" } : Jvm.MethodName) jdk_42_method_56_code (2 : Nat) (Option.some Jvm.ClassFile.FieldType.char)) : Jvm.Cond).before a0 Z = true := hw _ (List.mem_of_getElem? (i := 50) rfl)
theorem w51 {Z : State} {a0 : Array Value} (hw : ∀ d ∈ tables_1, d.before a0 Z = true) : ((Jvm.Cond.methodLink "java/lang/String" (492 : Nat) ({ cls := "java/lang/String", name := "isLatin1", desc := "()Z" } : Jvm.MethodName)) : Jvm.Cond).before a0 Z = true := hw _ (List.mem_of_getElem? (i := 51) rfl)
theorem w52 {Z : State} {a0 : Array Value} (hw : ∀ d ∈ tables_1, d.before a0 Z = true) : ((Jvm.Cond.declares ({ cls := "java/lang/String", name := "isLatin1", desc := "()Z" } : Jvm.MethodName)) : Jvm.Cond).before a0 Z = true := hw _ (List.mem_of_getElem? (i := 52) rfl)
theorem w53 {Z : State} {a0 : Array Value} (hw : ∀ d ∈ tables_1, d.before a0 Z = true) : ((Jvm.Cond.instanceMethod ({ cls := "java/lang/String", name := "isLatin1", desc := "()Z" } : Jvm.MethodName)) : Jvm.Cond).before a0 Z = true := hw _ (List.mem_of_getElem? (i := 53) rfl)
theorem w54 {Z : State} {a0 : Array Value} (hw : ∀ d ∈ tables_1, d.before a0 Z = true) : ((Jvm.Cond.selects "java/lang/String" ({ cls := "java/lang/String", name := "isLatin1", desc := "()Z" } : Jvm.MethodName) ({ cls := "java/lang/String", name := "isLatin1", desc := "()Z" } : Jvm.MethodName)) : Jvm.Cond).before a0 Z = true := hw _ (List.mem_of_getElem? (i := 54) rfl)
theorem w55 {Z : State} {a0 : Array Value} (hw : ∀ d ∈ tables_1, d.before a0 Z = true) : ((Jvm.Cond.code ({ cls := "java/lang/String", name := "isLatin1", desc := "()Z" } : Jvm.MethodName) jdk_42_method_154_code (1 : Nat) (Option.some Jvm.ClassFile.FieldType.boolean)) : Jvm.Cond).before a0 Z = true := hw _ (List.mem_of_getElem? (i := 55) rfl)
theorem w56 {Z : State} {a0 : Array Value} (hw : ∀ d ∈ tables_1, d.before a0 Z = true) : ((Jvm.Cond.methodLink "java/lang/String" (495 : Nat) ({ cls := "java/lang/StringLatin1", name := "charAt", desc := "([BI)C" } : Jvm.MethodName)) : Jvm.Cond).before a0 Z = true := hw _ (List.mem_of_getElem? (i := 56) rfl)
theorem w57 {Z : State} {a0 : Array Value} (hw : ∀ d ∈ tables_1, d.before a0 Z = true) : ((Jvm.Cond.static ({ cls := "java/lang/StringLatin1", name := "charAt", desc := "([BI)C" } : Jvm.MethodName)) : Jvm.Cond).before a0 Z = true := hw _ (List.mem_of_getElem? (i := 57) rfl)
theorem w58 {Z : State} {a0 : Array Value} (hw : ∀ d ∈ tables_1, d.before a0 Z = true) : ((Jvm.Cond.code ({ cls := "java/lang/StringLatin1", name := "charAt", desc := "([BI)C" } : Jvm.MethodName) jdk_43_method_2_code (2 : Nat) (Option.some Jvm.ClassFile.FieldType.char)) : Jvm.Cond).before a0 Z = true := hw _ (List.mem_of_getElem? (i := 58) rfl)
theorem w59 {Z : State} {a0 : Array Value} (hw : ∀ d ∈ tables_1, d.before a0 Z = true) : ((Jvm.Cond.methodLink "java/lang/StringLatin1" (9 : Nat) ({ cls := "java/lang/String", name := "checkIndex", desc := "(II)V" } : Jvm.MethodName)) : Jvm.Cond).before a0 Z = true := hw _ (List.mem_of_getElem? (i := 59) rfl)
theorem w60 {Z : State} {a0 : Array Value} (hw : ∀ d ∈ tables_1, d.before a0 Z = true) : ((Jvm.Cond.static ({ cls := "java/lang/String", name := "checkIndex", desc := "(II)V" } : Jvm.MethodName)) : Jvm.Cond).before a0 Z = true := hw _ (List.mem_of_getElem? (i := 60) rfl)
theorem w61 {Z : State} {a0 : Array Value} (hw : ∀ d ∈ tables_1, d.before a0 Z = true) : ((Jvm.Cond.code ({ cls := "java/lang/String", name := "checkIndex", desc := "(II)V" } : Jvm.MethodName) jdk_42_method_155_code (2 : Nat) (Option.none : Option Jvm.ClassFile.FieldType)) : Jvm.Cond).before a0 Z = true := hw _ (List.mem_of_getElem? (i := 61) rfl)
theorem w62 {Z : State} {a0 : Array Value} (hw : ∀ d ∈ tables_1, d.before a0 Z = true) : ((Jvm.Cond.fieldLink "java/lang/String" (1053 : Nat) "jdk/internal/util/Preconditions" "SIOOBE_FORMATTER" "Ljava/util/function/BiFunction;") : Jvm.Cond).before a0 Z = true := hw _ (List.mem_of_getElem? (i := 62) rfl)
theorem w63 {Z : State} {a0 : Array Value} (hw : ∀ d ∈ tables_1, d.before a0 Z = true) : ((Jvm.Cond.initialized "jdk/internal/util/Preconditions") : Jvm.Cond).before a0 Z = true := hw _ (List.mem_of_getElem? (i := 63) rfl)
theorem w64 {Z : State} {a0 : Array Value} (hw : ∀ d ∈ tables_1, d.before a0 Z = true) : ((Jvm.Cond.methodLink "java/lang/String" (1059 : Nat) ({ cls := "jdk/internal/util/Preconditions", name := "checkIndex", desc := "(IILjava/util/function/BiFunction;)I" } : Jvm.MethodName)) : Jvm.Cond).before a0 Z = true := hw _ (List.mem_of_getElem? (i := 64) rfl)
theorem w65 {Z : State} {a0 : Array Value} (hw : ∀ d ∈ tables_1, d.before a0 Z = true) : ((Jvm.Cond.static ({ cls := "jdk/internal/util/Preconditions", name := "checkIndex", desc := "(IILjava/util/function/BiFunction;)I" } : Jvm.MethodName)) : Jvm.Cond).before a0 Z = true := hw _ (List.mem_of_getElem? (i := 65) rfl)
theorem w66 {Z : State} {a0 : Array Value} (hw : ∀ d ∈ tables_1, d.before a0 Z = true) : ((Jvm.Cond.code ({ cls := "jdk/internal/util/Preconditions", name := "checkIndex", desc := "(IILjava/util/function/BiFunction;)I" } : Jvm.MethodName) jdk_41_method_11_code (3 : Nat) (Option.some Jvm.ClassFile.FieldType.int)) : Jvm.Cond).before a0 Z = true := hw _ (List.mem_of_getElem? (i := 66) rfl)
theorem w67 {Z : State} {a0 : Array Value} (hw : ∀ d ∈ tables_1, d.before a0 Z = true) : ((Jvm.Cond.constantLong "com/example/wrange/wrange/Fragment" (132 : Nat) (9223372036854775807 : Int64)) : Jvm.Cond).before a0 Z = true := hw _ (List.mem_of_getElem? (i := 67) rfl)
theorem w68 {Z : State} {a0 : Array Value} (hw : ∀ d ∈ tables_1, d.before a0 Z = true) : ((Jvm.Cond.constantLong "com/example/wrange/wrange/Fragment" (308 : Nat) (10 : Int64)) : Jvm.Cond).before a0 Z = true := hw _ (List.mem_of_getElem? (i := 68) rfl)
theorem w69 {Z : State} {a0 : Array Value} (hw : ∀ d ∈ tables_1, d.before a0 Z = true) : ((Jvm.Cond.arrayClass Jvm.ClassFile.FieldType.char) : Jvm.Cond).before a0 Z = true := hw _ (List.mem_of_getElem? (i := 69) rfl)
theorem w70 {Z : State} {a0 : Array Value} (hw : ∀ d ∈ tables_1, d.before a0 Z = true) : ((Jvm.Cond.methodLink "com/example/wrange/wrange/FragmentParseNumberPinLaw" (28 : Nat) ({ cls := "com/example/wrange/wrange/FragmentParseNumberPinLaw", name := "fill", desc := "([CJ)V" } : Jvm.MethodName)) : Jvm.Cond).before a0 Z = true := hw _ (List.mem_of_getElem? (i := 70) rfl)
theorem w71 {Z : State} {a0 : Array Value} (hw : ∀ d ∈ tables_1, d.before a0 Z = true) : ((Jvm.Cond.static ({ cls := "com/example/wrange/wrange/FragmentParseNumberPinLaw", name := "fill", desc := "([CJ)V" } : Jvm.MethodName)) : Jvm.Cond).before a0 Z = true := hw _ (List.mem_of_getElem? (i := 71) rfl)
theorem w72 {Z : State} {a0 : Array Value} (hw : ∀ d ∈ tables_1, d.before a0 Z = true) : ((Jvm.Cond.initialized "com/example/wrange/wrange/FragmentParseNumberPinLaw") : Jvm.Cond).before a0 Z = true := hw _ (List.mem_of_getElem? (i := 72) rfl)
theorem w73 {Z : State} {a0 : Array Value} (hw : ∀ d ∈ tables_1, d.before a0 Z = true) : ((Jvm.Cond.code ({ cls := "com/example/wrange/wrange/FragmentParseNumberPinLaw", name := "fill", desc := "([CJ)V" } : Jvm.MethodName) method_4_code (5 : Nat) (Option.none : Option Jvm.ClassFile.FieldType)) : Jvm.Cond).before a0 Z = true := hw _ (List.mem_of_getElem? (i := 73) rfl)
theorem w74 {Z : State} {a0 : Array Value} (hw : ∀ d ∈ tables_1, d.before a0 Z = true) : ((Jvm.Cond.methodLink "com/example/wrange/wrange/FragmentParseNumberPinLaw" (41 : Nat) ({ cls := "com/example/wrange/wrange/FragmentParseNumberPinLaw", name := "digit", desc := "(J)C" } : Jvm.MethodName)) : Jvm.Cond).before a0 Z = true := hw _ (List.mem_of_getElem? (i := 74) rfl)
theorem w75 {Z : State} {a0 : Array Value} (hw : ∀ d ∈ tables_1, d.before a0 Z = true) : ((Jvm.Cond.static ({ cls := "com/example/wrange/wrange/FragmentParseNumberPinLaw", name := "digit", desc := "(J)C" } : Jvm.MethodName)) : Jvm.Cond).before a0 Z = true := hw _ (List.mem_of_getElem? (i := 75) rfl)
theorem w76 {Z : State} {a0 : Array Value} (hw : ∀ d ∈ tables_1, d.before a0 Z = true) : ((Jvm.Cond.code ({ cls := "com/example/wrange/wrange/FragmentParseNumberPinLaw", name := "digit", desc := "(J)C" } : Jvm.MethodName) method_3_code (2 : Nat) (Option.some Jvm.ClassFile.FieldType.char)) : Jvm.Cond).before a0 Z = true := hw _ (List.mem_of_getElem? (i := 76) rfl)
theorem w77 {Z : State} {a0 : Array Value} (hw : ∀ d ∈ tables_1, d.before a0 Z = true) : ((Jvm.Cond.constantLong "com/example/wrange/wrange/FragmentParseNumberPinLaw" (36 : Nat) (10 : Int64)) : Jvm.Cond).before a0 Z = true := hw _ (List.mem_of_getElem? (i := 77) rfl)
theorem w78 {Z : State} {a0 : Array Value} (hw : ∀ d ∈ tables_1, d.before a0 Z = true) : ((Jvm.Cond.classLink "com/example/wrange/wrange/FragmentParseNumberPinLaw" (23 : Nat) "java/lang/String") : Jvm.Cond).before a0 Z = true := hw _ (List.mem_of_getElem? (i := 78) rfl)
theorem w79 {Z : State} {a0 : Array Value} (hw : ∀ d ∈ tables_1, d.before a0 Z = true) : ((Jvm.Cond.methodLink "com/example/wrange/wrange/FragmentParseNumberPinLaw" (38 : Nat) ({ cls := "java/lang/String", name := "<init>", desc := "([C)V" } : Jvm.MethodName)) : Jvm.Cond).before a0 Z = true := hw _ (List.mem_of_getElem? (i := 79) rfl)
theorem w80 {Z : State} {a0 : Array Value} (hw : ∀ d ∈ tables_1, d.before a0 Z = true) : ((Jvm.Cond.instanceMethod ({ cls := "java/lang/String", name := "<init>", desc := "([C)V" } : Jvm.MethodName)) : Jvm.Cond).before a0 Z = true := hw _ (List.mem_of_getElem? (i := 80) rfl)
theorem w81 {Z : State} {a0 : Array Value} (hw : ∀ d ∈ tables_1, d.before a0 Z = true) : ((Jvm.Cond.code ({ cls := "java/lang/String", name := "<init>", desc := "([C)V" } : Jvm.MethodName) jdk_42_method_3_code (2 : Nat) (Option.none : Option Jvm.ClassFile.FieldType)) : Jvm.Cond).before a0 Z = true := hw _ (List.mem_of_getElem? (i := 81) rfl)
theorem w82 {Z : State} {a0 : Array Value} (hw : ∀ d ∈ tables_1, d.before a0 Z = true) : ((Jvm.Cond.methodLink "java/lang/String" (27 : Nat) ({ cls := "java/lang/String", name := "<init>", desc := "([CIILjava/lang/Void;)V" } : Jvm.MethodName)) : Jvm.Cond).before a0 Z = true := hw _ (List.mem_of_getElem? (i := 82) rfl)
theorem w83 {Z : State} {a0 : Array Value} (hw : ∀ d ∈ tables_1, d.before a0 Z = true) : ((Jvm.Cond.instanceMethod ({ cls := "java/lang/String", name := "<init>", desc := "([CIILjava/lang/Void;)V" } : Jvm.MethodName)) : Jvm.Cond).before a0 Z = true := hw _ (List.mem_of_getElem? (i := 83) rfl)
theorem w84 {Z : State} {a0 : Array Value} (hw : ∀ d ∈ tables_1, d.before a0 Z = true) : ((Jvm.Cond.code ({ cls := "java/lang/String", name := "<init>", desc := "([CIILjava/lang/Void;)V" } : Jvm.MethodName) jdk_42_method_149_code (6 : Nat) (Option.none : Option Jvm.ClassFile.FieldType)) : Jvm.Cond).before a0 Z = true := hw _ (List.mem_of_getElem? (i := 84) rfl)
theorem w85 {Z : State} {a0 : Array Value} (hw : ∀ d ∈ tables_1, d.before a0 Z = true) : ((Jvm.Cond.methodLink "java/lang/String" (177 : Nat) ({ cls := "java/lang/StringUTF16", name := "compress", desc := "([CII)[B" } : Jvm.MethodName)) : Jvm.Cond).before a0 Z = true := hw _ (List.mem_of_getElem? (i := 85) rfl)
theorem w86 {Z : State} {a0 : Array Value} (hw : ∀ d ∈ tables_1, d.before a0 Z = true) : ((Jvm.Cond.static ({ cls := "java/lang/StringUTF16", name := "compress", desc := "([CII)[B" } : Jvm.MethodName)) : Jvm.Cond).before a0 Z = true := hw _ (List.mem_of_getElem? (i := 86) rfl)
theorem w87 {Z : State} {a0 : Array Value} (hw : ∀ d ∈ tables_1, d.before a0 Z = true) : ((Jvm.Cond.initialized "java/lang/StringUTF16") : Jvm.Cond).before a0 Z = true := hw _ (List.mem_of_getElem? (i := 87) rfl)
theorem w88 {Z : State} {a0 : Array Value} (hw : ∀ d ∈ tables_1, d.before a0 Z = true) : ((Jvm.Cond.code ({ cls := "java/lang/StringUTF16", name := "compress", desc := "([CII)[B" } : Jvm.MethodName) jdk_52_method_16_code (6 : Nat) (Option.some (Jvm.ClassFile.FieldType.array Jvm.ClassFile.FieldType.byte))) : Jvm.Cond).before a0 Z = true := hw _ (List.mem_of_getElem? (i := 88) rfl)
theorem w89 {Z : State} {a0 : Array Value} (hw : ∀ d ∈ tables_1, d.before a0 Z = true) : ((Jvm.Cond.methodLink "java/lang/StringUTF16" (115 : Nat) ({ cls := "java/lang/StringUTF16", name := "compress", desc := "([CI[BII)I" } : Jvm.MethodName)) : Jvm.Cond).before a0 Z = true := hw _ (List.mem_of_getElem? (i := 89) rfl)
theorem w90 {Z : State} {a0 : Array Value} (hw : ∀ d ∈ tables_1, d.before a0 Z = true) : ((Jvm.Cond.static ({ cls := "java/lang/StringUTF16", name := "compress", desc := "([CI[BII)I" } : Jvm.MethodName)) : Jvm.Cond).before a0 Z = true := hw _ (List.mem_of_getElem? (i := 90) rfl)
theorem w91 {Z : State} {a0 : Array Value} (hw : ∀ d ∈ tables_1, d.before a0 Z = true) : ((Jvm.Cond.code ({ cls := "java/lang/StringUTF16", name := "compress", desc := "([CI[BII)I" } : Jvm.MethodName) jdk_52_method_21_code (7 : Nat) (Option.some Jvm.ClassFile.FieldType.int)) : Jvm.Cond).before a0 Z = true := hw _ (List.mem_of_getElem? (i := 91) rfl)
theorem w92 {Z : State} {a0 : Array Value} (hw : ∀ d ∈ tables_1, d.before a0 Z = true) : ((Jvm.Cond.methodLink "java/lang/String" (47 : Nat) ({ cls := "java/lang/StringUTF16", name := "coderFromArrayLen", desc := "([BI)B" } : Jvm.MethodName)) : Jvm.Cond).before a0 Z = true := hw _ (List.mem_of_getElem? (i := 92) rfl)
theorem w93 {Z : State} {a0 : Array Value} (hw : ∀ d ∈ tables_1, d.before a0 Z = true) : ((Jvm.Cond.static ({ cls := "java/lang/StringUTF16", name := "coderFromArrayLen", desc := "([BI)B" } : Jvm.MethodName)) : Jvm.Cond).before a0 Z = true := hw _ (List.mem_of_getElem? (i := 93) rfl)
theorem w94 {Z : State} {a0 : Array Value} (hw : ∀ d ∈ tables_1, d.before a0 Z = true) : ((Jvm.Cond.code ({ cls := "java/lang/StringUTF16", name := "coderFromArrayLen", desc := "([BI)B" } : Jvm.MethodName) jdk_52_method_15_code (2 : Nat) (Option.some Jvm.ClassFile.FieldType.byte)) : Jvm.Cond).before a0 Z = true := hw _ (List.mem_of_getElem? (i := 94) rfl)
theorem w95 {Z : State} {a0 : Array Value} (hw : ∀ d ∈ tables_1, d.before a0 Z = true) : ((Jvm.Cond.constantLong "com/example/wrange/wrange/FragmentParseNumberPinLaw" (34 : Nat) (922337203685477580 : Int64)) : Jvm.Cond).before a0 Z = true := hw _ (List.mem_of_getElem? (i := 95) rfl)
theorem d1_0 : decode prog_4_method_17_code 0 = .ok (.lconst 0, 1) := by decide +kernel
theorem d1_1 : decode prog_4_method_17_code 1 = .ok (.lstore_n 1, 1) := by decide +kernel
theorem d1_2 : decode prog_4_method_17_code 2 = .ok (.iconst 0, 1) := by decide +kernel
theorem d1_3 : decode prog_4_method_17_code 3 = .ok (.istore_n 3, 1) := by decide +kernel
theorem d1_4 : decode prog_4_method_17_code 4 = .ok (.iload_n 3, 1) := by decide +kernel
theorem d1_5 : decode prog_4_method_17_code 5 = .ok (.aload_n 0, 1) := by decide +kernel
theorem d1_6 : decode prog_4_method_17_code 6 = .ok (.invokevirtual 273, 3) := by decide +kernel
theorem d1_9 : decode prog_4_method_17_code 9 = .ok (.if_icmp .ge 49, 3) := by decide +kernel
theorem d1_12 : decode prog_4_method_17_code 12 = .ok (.aload_n 0, 1) := by decide +kernel
theorem d1_13 : decode prog_4_method_17_code 13 = .ok (.iload_n 3, 1) := by decide +kernel
theorem d1_14 : decode prog_4_method_17_code 14 = .ok (.invokevirtual 304, 3) := by decide +kernel
theorem d1_17 : decode prog_4_method_17_code 17 = .ok (.bipush 48, 2) := by decide +kernel
theorem d1_19 : decode prog_4_method_17_code 19 = .ok (.isub, 1) := by decide +kernel
theorem d1_20 : decode prog_4_method_17_code 20 = .ok (.istore 4, 2) := by decide +kernel
theorem d1_22 : decode prog_4_method_17_code 22 = .ok (.lload_n 1, 1) := by decide +kernel
theorem d1_23 : decode prog_4_method_17_code 23 = .ok (.ldc2_w 132, 3) := by decide +kernel
theorem d1_26 : decode prog_4_method_17_code 26 = .ok (.iload 4, 2) := by decide +kernel
theorem d1_28 : decode prog_4_method_17_code 28 = .ok (.i2l, 1) := by decide +kernel
theorem d1_29 : decode prog_4_method_17_code 29 = .ok (.lsub, 1) := by decide +kernel
theorem d1_30 : decode prog_4_method_17_code 30 = .ok (.ldc2_w 308, 3) := by decide +kernel
theorem d1_33 : decode prog_4_method_17_code 33 = .ok (.ldiv, 1) := by decide +kernel
theorem d1_34 : decode prog_4_method_17_code 34 = .ok (.lcmp, 1) := by decide +kernel
theorem d1_35 : decode prog_4_method_17_code 35 = .ok (.ifCond .le 7, 3) := by decide +kernel
theorem d1_38 : decode prog_4_method_17_code 38 = .ok (.ldc2_w 132, 3) := by decide +kernel
theorem d1_41 : decode prog_4_method_17_code 41 = .ok (.lreturn, 1) := by decide +kernel
theorem d1_42 : decode prog_4_method_17_code 42 = .ok (.lload_n 1, 1) := by decide +kernel
theorem d1_43 : decode prog_4_method_17_code 43 = .ok (.ldc2_w 308, 3) := by decide +kernel
theorem d1_46 : decode prog_4_method_17_code 46 = .ok (.lmul, 1) := by decide +kernel
theorem d1_47 : decode prog_4_method_17_code 47 = .ok (.iload 4, 2) := by decide +kernel
theorem d1_49 : decode prog_4_method_17_code 49 = .ok (.i2l, 1) := by decide +kernel
theorem d1_50 : decode prog_4_method_17_code 50 = .ok (.ladd, 1) := by decide +kernel
theorem d1_51 : decode prog_4_method_17_code 51 = .ok (.lstore_n 1, 1) := by decide +kernel
theorem d1_52 : decode prog_4_method_17_code 52 = .ok (.iinc 3 1, 3) := by decide +kernel
theorem d1_55 : decode prog_4_method_17_code 55 = .ok (.goto (-51), 3) := by decide +kernel
theorem d1_58 : decode prog_4_method_17_code 58 = .ok (.lload_n 1, 1) := by decide +kernel
theorem d1_59 : decode prog_4_method_17_code 59 = .ok (.lreturn, 1) := by decide +kernel
theorem d2_0 : decode jdk_42_method_54_code 0 = .ok (.aload_n 0, 1) := by decide +kernel
theorem d2_1 : decode jdk_42_method_54_code 1 = .ok (.getfield 9, 3) := by decide +kernel
theorem d2_4 : decode jdk_42_method_54_code 4 = .ok (.arraylength, 1) := by decide +kernel
theorem d2_5 : decode jdk_42_method_54_code 5 = .ok (.aload_n 0, 1) := by decide +kernel
theorem d2_6 : decode jdk_42_method_54_code 6 = .ok (.invokevirtual 335, 3) := by decide +kernel
theorem d2_9 : decode jdk_42_method_54_code 9 = .ok (.ishr, 1) := by decide +kernel
theorem d2_10 : decode jdk_42_method_54_code 10 = .ok (.ireturn, 1) := by decide +kernel
theorem d3_0 : decode jdk_42_method_152_code 0 = .ok (.getstatic 38, 3) := by decide +kernel
theorem d3_3 : decode jdk_42_method_152_code 3 = .ok (.ifCond .eq 10, 3) := by decide +kernel
theorem d3_6 : decode jdk_42_method_152_code 6 = .ok (.aload_n 0, 1) := by decide +kernel
theorem d3_7 : decode jdk_42_method_152_code 7 = .ok (.getfield 15, 3) := by decide +kernel
theorem d3_10 : decode jdk_42_method_152_code 10 = .ok (.goto 4, 3) := by decide +kernel
theorem d3_14 : decode jdk_42_method_152_code 14 = .ok (.ireturn, 1) := by decide +kernel
theorem d4_0 : decode jdk_42_method_139_code 0 = .ok (.getstatic 38, 3) := by decide +kernel
theorem d4_3 : decode jdk_42_method_139_code 3 = .ok (.ifCond .eq 23, 3) := by decide +kernel
theorem d4_6 : decode jdk_42_method_139_code 6 = .ok (.iload_n 0, 1) := by decide +kernel
theorem d4_7 : decode jdk_42_method_139_code 7 = .ok (.invokestatic 1015, 3) := by decide +kernel
theorem d4_10 : decode jdk_42_method_139_code 10 = .ok (.ifCond .eq 16, 3) := by decide +kernel
theorem d4_13 : decode jdk_42_method_139_code 13 = .ok (.new 10, 3) := by decide +kernel
theorem d4_16 : decode jdk_42_method_139_code 16 = .ok (.dup, 1) := by decide +kernel
theorem d4_17 : decode jdk_42_method_139_code 17 = .ok (.iload_n 0, 1) := by decide +kernel
theorem d4_18 : decode jdk_42_method_139_code 18 = .ok (.invokestatic 1018, 3) := by decide +kernel
theorem d4_21 : decode jdk_42_method_139_code 21 = .ok (.iconst 0, 1) := by decide +kernel
theorem d4_22 : decode jdk_42_method_139_code 22 = .ok (.invokespecial 209, 3) := by decide +kernel
theorem d4_25 : decode jdk_42_method_139_code 25 = .ok (.areturn, 1) := by decide +kernel
theorem d5_0 : decode jdk_43_method_3_code 0 = .ok (.iload_n 0, 1) := by decide +kernel
theorem d5_1 : decode jdk_43_method_3_code 1 = .ok (.sipush 255, 3) := by decide +kernel
theorem d5_4 : decode jdk_43_method_3_code 4 = .ok (.if_icmp .gt 7, 3) := by decide +kernel
theorem d5_7 : decode jdk_43_method_3_code 7 = .ok (.iconst 1, 1) := by decide +kernel
theorem d5_8 : decode jdk_43_method_3_code 8 = .ok (.goto 4, 3) := by decide +kernel
theorem d5_12 : decode jdk_43_method_3_code 12 = .ok (.ireturn, 1) := by decide +kernel
theorem d6_0 : decode jdk_43_method_46_code 0 = .ok (.iconst 1, 1) := by decide +kernel
theorem d6_1 : decode jdk_43_method_46_code 1 = .ok (.newarray .byte, 2) := by decide +kernel
theorem d6_3 : decode jdk_43_method_46_code 3 = .ok (.dup, 1) := by decide +kernel
theorem d6_4 : decode jdk_43_method_46_code 4 = .ok (.iconst 0, 1) := by decide +kernel
theorem d6_5 : decode jdk_43_method_46_code 5 = .ok (.iload_n 0, 1) := by decide +kernel
theorem d6_6 : decode jdk_43_method_46_code 6 = .ok (.i2b, 1) := by decide +kernel
theorem d6_7 : decode jdk_43_method_46_code 7 = .ok (.bastore, 1) := by decide +kernel
theorem d6_8 : decode jdk_43_method_46_code 8 = .ok (.areturn, 1) := by decide +kernel
theorem d7_0 : decode jdk_42_method_151_code 0 = .ok (.aload_n 0, 1) := by decide +kernel
theorem d7_1 : decode jdk_42_method_151_code 1 = .ok (.invokespecial 1, 3) := by decide +kernel
theorem d7_4 : decode jdk_42_method_151_code 4 = .ok (.aload_n 0, 1) := by decide +kernel
theorem d7_5 : decode jdk_42_method_151_code 5 = .ok (.aload_n 1, 1) := by decide +kernel
theorem d7_6 : decode jdk_42_method_151_code 6 = .ok (.putfield 9, 3) := by decide +kernel
theorem d7_9 : decode jdk_42_method_151_code 9 = .ok (.aload_n 0, 1) := by decide +kernel
theorem d7_10 : decode jdk_42_method_151_code 10 = .ok (.iload_n 2, 1) := by decide +kernel
theorem d7_11 : decode jdk_42_method_151_code 11 = .ok (.putfield 15, 3) := by decide +kernel
theorem d7_14 : decode jdk_42_method_151_code 14 = .ok (.return_, 1) := by decide +kernel
theorem d9_0 : decode jdk_42_method_56_code 0 = .ok (.aload_n 0, 1) := by decide +kernel
theorem d9_1 : decode jdk_42_method_56_code 1 = .ok (.invokevirtual 492, 3) := by decide +kernel
theorem d9_4 : decode jdk_42_method_56_code 4 = .ok (.ifCond .eq 12, 3) := by decide +kernel
theorem d9_7 : decode jdk_42_method_56_code 7 = .ok (.aload_n 0, 1) := by decide +kernel
theorem d9_8 : decode jdk_42_method_56_code 8 = .ok (.getfield 9, 3) := by decide +kernel
theorem d9_11 : decode jdk_42_method_56_code 11 = .ok (.iload_n 1, 1) := by decide +kernel
theorem d9_12 : decode jdk_42_method_56_code 12 = .ok (.invokestatic 495, 3) := by decide +kernel
theorem d9_15 : decode jdk_42_method_56_code 15 = .ok (.ireturn, 1) := by decide +kernel
theorem d10_0 : decode jdk_42_method_154_code 0 = .ok (.getstatic 38, 3) := by decide +kernel
theorem d10_3 : decode jdk_42_method_154_code 3 = .ok (.ifCond .eq 14, 3) := by decide +kernel
theorem d10_6 : decode jdk_42_method_154_code 6 = .ok (.aload_n 0, 1) := by decide +kernel
theorem d10_7 : decode jdk_42_method_154_code 7 = .ok (.getfield 15, 3) := by decide +kernel
theorem d10_10 : decode jdk_42_method_154_code 10 = .ok (.ifCond .ne 7, 3) := by decide +kernel
theorem d10_13 : decode jdk_42_method_154_code 13 = .ok (.iconst 1, 1) := by decide +kernel
theorem d10_14 : decode jdk_42_method_154_code 14 = .ok (.goto 4, 3) := by decide +kernel
theorem d10_18 : decode jdk_42_method_154_code 18 = .ok (.ireturn, 1) := by decide +kernel
theorem d11_0 : decode jdk_43_method_2_code 0 = .ok (.iload_n 1, 1) := by decide +kernel
theorem d11_1 : decode jdk_43_method_2_code 1 = .ok (.aload_n 0, 1) := by decide +kernel
theorem d11_2 : decode jdk_43_method_2_code 2 = .ok (.arraylength, 1) := by decide +kernel
theorem d11_3 : decode jdk_43_method_2_code 3 = .ok (.invokestatic 9, 3) := by decide +kernel
theorem d11_6 : decode jdk_43_method_2_code 6 = .ok (.aload_n 0, 1) := by decide +kernel
theorem d11_7 : decode jdk_43_method_2_code 7 = .ok (.iload_n 1, 1) := by decide +kernel
theorem d11_8 : decode jdk_43_method_2_code 8 = .ok (.baload, 1) := by decide +kernel
theorem d11_9 : decode jdk_43_method_2_code 9 = .ok (.sipush 255, 3) := by decide +kernel
theorem d11_12 : decode jdk_43_method_2_code 12 = .ok (.iand, 1) := by decide +kernel
theorem d11_13 : decode jdk_43_method_2_code 13 = .ok (.i2c, 1) := by decide +kernel
theorem d11_14 : decode jdk_43_method_2_code 14 = .ok (.ireturn, 1) := by decide +kernel
theorem d12_0 : decode jdk_42_method_155_code 0 = .ok (.iload_n 0, 1) := by decide +kernel
theorem d12_1 : decode jdk_42_method_155_code 1 = .ok (.iload_n 1, 1) := by decide +kernel
theorem d12_2 : decode jdk_42_method_155_code 2 = .ok (.getstatic 1053, 3) := by decide +kernel
theorem d12_5 : decode jdk_42_method_155_code 5 = .ok (.invokestatic 1059, 3) := by decide +kernel
theorem d12_8 : decode jdk_42_method_155_code 8 = .ok (.pop, 1) := by decide +kernel
theorem d12_9 : decode jdk_42_method_155_code 9 = .ok (.return_, 1) := by decide +kernel
theorem d13_0 : decode jdk_41_method_11_code 0 = .ok (.iload_n 0, 1) := by decide +kernel
theorem d13_1 : decode jdk_41_method_11_code 1 = .ok (.ifCond .lt 8, 3) := by decide +kernel
theorem d13_4 : decode jdk_41_method_11_code 4 = .ok (.iload_n 0, 1) := by decide +kernel
theorem d13_5 : decode jdk_41_method_11_code 5 = .ok (.iload_n 1, 1) := by decide +kernel
theorem d13_6 : decode jdk_41_method_11_code 6 = .ok (.if_icmp .lt 10, 3) := by decide +kernel
theorem d13_16 : decode jdk_41_method_11_code 16 = .ok (.iload_n 0, 1) := by decide +kernel
theorem d13_17 : decode jdk_41_method_11_code 17 = .ok (.ireturn, 1) := by decide +kernel
theorem d14_0 : decode method_4_code 0 = .ok (.lload_n 1, 1) := by decide +kernel
theorem d14_1 : decode method_4_code 1 = .ok (.lstore_n 3, 1) := by decide +kernel
theorem d14_2 : decode method_4_code 2 = .ok (.aload_n 0, 1) := by decide +kernel
theorem d14_3 : decode method_4_code 3 = .ok (.bipush 18, 2) := by decide +kernel
theorem d14_5 : decode method_4_code 5 = .ok (.lload_n 3, 1) := by decide +kernel
theorem d14_6 : decode method_4_code 6 = .ok (.invokestatic 41, 3) := by decide +kernel
theorem d14_9 : decode method_4_code 9 = .ok (.castore, 1) := by decide +kernel
theorem d14_10 : decode method_4_code 10 = .ok (.lload_n 3, 1) := by decide +kernel
theorem d14_11 : decode method_4_code 11 = .ok (.ldc2_w 36, 3) := by decide +kernel
theorem d14_14 : decode method_4_code 14 = .ok (.ldiv, 1) := by decide +kernel
theorem d14_15 : decode method_4_code 15 = .ok (.lstore_n 3, 1) := by decide +kernel
theorem d14_16 : decode method_4_code 16 = .ok (.aload_n 0, 1) := by decide +kernel
theorem d14_17 : decode method_4_code 17 = .ok (.bipush 17, 2) := by decide +kernel
theorem d14_19 : decode method_4_code 19 = .ok (.lload_n 3, 1) := by decide +kernel
theorem d14_20 : decode method_4_code 20 = .ok (.invokestatic 41, 3) := by decide +kernel
theorem d14_23 : decode method_4_code 23 = .ok (.castore, 1) := by decide +kernel
theorem d14_24 : decode method_4_code 24 = .ok (.lload_n 3, 1) := by decide +kernel
theorem d14_25 : decode method_4_code 25 = .ok (.ldc2_w 36, 3) := by decide +kernel
theorem d14_28 : decode method_4_code 28 = .ok (.ldiv, 1) := by decide +kernel
theorem d14_29 : decode method_4_code 29 = .ok (.lstore_n 3, 1) := by decide +kernel
theorem d14_30 : decode method_4_code 30 = .ok (.aload_n 0, 1) := by decide +kernel
theorem d14_31 : decode method_4_code 31 = .ok (.bipush 16, 2) := by decide +kernel
theorem d14_33 : decode method_4_code 33 = .ok (.lload_n 3, 1) := by decide +kernel
theorem d14_34 : decode method_4_code 34 = .ok (.invokestatic 41, 3) := by decide +kernel
theorem d14_37 : decode method_4_code 37 = .ok (.castore, 1) := by decide +kernel
theorem d14_38 : decode method_4_code 38 = .ok (.lload_n 3, 1) := by decide +kernel
theorem d14_39 : decode method_4_code 39 = .ok (.ldc2_w 36, 3) := by decide +kernel
theorem d14_42 : decode method_4_code 42 = .ok (.ldiv, 1) := by decide +kernel
theorem d14_43 : decode method_4_code 43 = .ok (.lstore_n 3, 1) := by decide +kernel
theorem d14_44 : decode method_4_code 44 = .ok (.aload_n 0, 1) := by decide +kernel
theorem d14_45 : decode method_4_code 45 = .ok (.bipush 15, 2) := by decide +kernel
theorem d14_47 : decode method_4_code 47 = .ok (.lload_n 3, 1) := by decide +kernel
theorem d14_48 : decode method_4_code 48 = .ok (.invokestatic 41, 3) := by decide +kernel
theorem d14_51 : decode method_4_code 51 = .ok (.castore, 1) := by decide +kernel
theorem d14_52 : decode method_4_code 52 = .ok (.lload_n 3, 1) := by decide +kernel
theorem d14_53 : decode method_4_code 53 = .ok (.ldc2_w 36, 3) := by decide +kernel
theorem d14_56 : decode method_4_code 56 = .ok (.ldiv, 1) := by decide +kernel
theorem d14_57 : decode method_4_code 57 = .ok (.lstore_n 3, 1) := by decide +kernel
theorem d14_58 : decode method_4_code 58 = .ok (.aload_n 0, 1) := by decide +kernel
theorem d14_59 : decode method_4_code 59 = .ok (.bipush 14, 2) := by decide +kernel
theorem d14_61 : decode method_4_code 61 = .ok (.lload_n 3, 1) := by decide +kernel
theorem d14_62 : decode method_4_code 62 = .ok (.invokestatic 41, 3) := by decide +kernel
theorem d14_65 : decode method_4_code 65 = .ok (.castore, 1) := by decide +kernel
theorem d14_66 : decode method_4_code 66 = .ok (.lload_n 3, 1) := by decide +kernel
theorem d14_67 : decode method_4_code 67 = .ok (.ldc2_w 36, 3) := by decide +kernel
theorem d14_70 : decode method_4_code 70 = .ok (.ldiv, 1) := by decide +kernel
theorem d14_71 : decode method_4_code 71 = .ok (.lstore_n 3, 1) := by decide +kernel
theorem d14_72 : decode method_4_code 72 = .ok (.aload_n 0, 1) := by decide +kernel
theorem d14_73 : decode method_4_code 73 = .ok (.bipush 13, 2) := by decide +kernel
theorem d14_75 : decode method_4_code 75 = .ok (.lload_n 3, 1) := by decide +kernel
theorem d14_76 : decode method_4_code 76 = .ok (.invokestatic 41, 3) := by decide +kernel
theorem d14_79 : decode method_4_code 79 = .ok (.castore, 1) := by decide +kernel
theorem d14_80 : decode method_4_code 80 = .ok (.lload_n 3, 1) := by decide +kernel
theorem d14_81 : decode method_4_code 81 = .ok (.ldc2_w 36, 3) := by decide +kernel
theorem d14_84 : decode method_4_code 84 = .ok (.ldiv, 1) := by decide +kernel
theorem d14_85 : decode method_4_code 85 = .ok (.lstore_n 3, 1) := by decide +kernel
theorem d14_86 : decode method_4_code 86 = .ok (.aload_n 0, 1) := by decide +kernel
theorem d14_87 : decode method_4_code 87 = .ok (.bipush 12, 2) := by decide +kernel
theorem d14_89 : decode method_4_code 89 = .ok (.lload_n 3, 1) := by decide +kernel
theorem d14_90 : decode method_4_code 90 = .ok (.invokestatic 41, 3) := by decide +kernel
theorem d14_93 : decode method_4_code 93 = .ok (.castore, 1) := by decide +kernel
theorem d14_94 : decode method_4_code 94 = .ok (.lload_n 3, 1) := by decide +kernel
theorem d14_95 : decode method_4_code 95 = .ok (.ldc2_w 36, 3) := by decide +kernel
theorem d14_98 : decode method_4_code 98 = .ok (.ldiv, 1) := by decide +kernel
theorem d14_99 : decode method_4_code 99 = .ok (.lstore_n 3, 1) := by decide +kernel
theorem d14_100 : decode method_4_code 100 = .ok (.aload_n 0, 1) := by decide +kernel
theorem d14_101 : decode method_4_code 101 = .ok (.bipush 11, 2) := by decide +kernel
theorem d14_103 : decode method_4_code 103 = .ok (.lload_n 3, 1) := by decide +kernel
theorem d14_104 : decode method_4_code 104 = .ok (.invokestatic 41, 3) := by decide +kernel
theorem d14_107 : decode method_4_code 107 = .ok (.castore, 1) := by decide +kernel
theorem d14_108 : decode method_4_code 108 = .ok (.lload_n 3, 1) := by decide +kernel
theorem d14_109 : decode method_4_code 109 = .ok (.ldc2_w 36, 3) := by decide +kernel
theorem d14_112 : decode method_4_code 112 = .ok (.ldiv, 1) := by decide +kernel
theorem d14_113 : decode method_4_code 113 = .ok (.lstore_n 3, 1) := by decide +kernel
theorem d14_114 : decode method_4_code 114 = .ok (.aload_n 0, 1) := by decide +kernel
theorem d14_115 : decode method_4_code 115 = .ok (.bipush 10, 2) := by decide +kernel
theorem d14_117 : decode method_4_code 117 = .ok (.lload_n 3, 1) := by decide +kernel
theorem d14_118 : decode method_4_code 118 = .ok (.invokestatic 41, 3) := by decide +kernel
theorem d14_121 : decode method_4_code 121 = .ok (.castore, 1) := by decide +kernel
theorem d14_122 : decode method_4_code 122 = .ok (.lload_n 3, 1) := by decide +kernel
theorem d14_123 : decode method_4_code 123 = .ok (.ldc2_w 36, 3) := by decide +kernel
theorem d14_126 : decode method_4_code 126 = .ok (.ldiv, 1) := by decide +kernel
theorem d14_127 : decode method_4_code 127 = .ok (.lstore_n 3, 1) := by decide +kernel
theorem d14_128 : decode method_4_code 128 = .ok (.aload_n 0, 1) := by decide +kernel
theorem d14_129 : decode method_4_code 129 = .ok (.bipush 9, 2) := by decide +kernel
theorem d14_131 : decode method_4_code 131 = .ok (.lload_n 3, 1) := by decide +kernel
theorem d14_132 : decode method_4_code 132 = .ok (.invokestatic 41, 3) := by decide +kernel
theorem d14_135 : decode method_4_code 135 = .ok (.castore, 1) := by decide +kernel
theorem d14_136 : decode method_4_code 136 = .ok (.lload_n 3, 1) := by decide +kernel
theorem d14_137 : decode method_4_code 137 = .ok (.ldc2_w 36, 3) := by decide +kernel
theorem d14_140 : decode method_4_code 140 = .ok (.ldiv, 1) := by decide +kernel
theorem d14_141 : decode method_4_code 141 = .ok (.lstore_n 3, 1) := by decide +kernel
theorem d14_142 : decode method_4_code 142 = .ok (.aload_n 0, 1) := by decide +kernel
theorem d14_143 : decode method_4_code 143 = .ok (.bipush 8, 2) := by decide +kernel
theorem d14_145 : decode method_4_code 145 = .ok (.lload_n 3, 1) := by decide +kernel
theorem d14_146 : decode method_4_code 146 = .ok (.invokestatic 41, 3) := by decide +kernel
theorem d14_149 : decode method_4_code 149 = .ok (.castore, 1) := by decide +kernel
theorem d14_150 : decode method_4_code 150 = .ok (.lload_n 3, 1) := by decide +kernel
theorem d14_151 : decode method_4_code 151 = .ok (.ldc2_w 36, 3) := by decide +kernel
theorem d14_154 : decode method_4_code 154 = .ok (.ldiv, 1) := by decide +kernel
theorem d14_155 : decode method_4_code 155 = .ok (.lstore_n 3, 1) := by decide +kernel
theorem d14_156 : decode method_4_code 156 = .ok (.aload_n 0, 1) := by decide +kernel
theorem d14_157 : decode method_4_code 157 = .ok (.bipush 7, 2) := by decide +kernel
theorem d14_159 : decode method_4_code 159 = .ok (.lload_n 3, 1) := by decide +kernel
theorem d14_160 : decode method_4_code 160 = .ok (.invokestatic 41, 3) := by decide +kernel
theorem d14_163 : decode method_4_code 163 = .ok (.castore, 1) := by decide +kernel
theorem d14_164 : decode method_4_code 164 = .ok (.lload_n 3, 1) := by decide +kernel
theorem d14_165 : decode method_4_code 165 = .ok (.ldc2_w 36, 3) := by decide +kernel
theorem d14_168 : decode method_4_code 168 = .ok (.ldiv, 1) := by decide +kernel
theorem d14_169 : decode method_4_code 169 = .ok (.lstore_n 3, 1) := by decide +kernel
theorem d14_170 : decode method_4_code 170 = .ok (.aload_n 0, 1) := by decide +kernel
theorem d14_171 : decode method_4_code 171 = .ok (.bipush 6, 2) := by decide +kernel
theorem d14_173 : decode method_4_code 173 = .ok (.lload_n 3, 1) := by decide +kernel
theorem d14_174 : decode method_4_code 174 = .ok (.invokestatic 41, 3) := by decide +kernel
theorem d14_177 : decode method_4_code 177 = .ok (.castore, 1) := by decide +kernel
theorem d14_178 : decode method_4_code 178 = .ok (.lload_n 3, 1) := by decide +kernel
theorem d14_179 : decode method_4_code 179 = .ok (.ldc2_w 36, 3) := by decide +kernel
theorem d14_182 : decode method_4_code 182 = .ok (.ldiv, 1) := by decide +kernel
theorem d14_183 : decode method_4_code 183 = .ok (.lstore_n 3, 1) := by decide +kernel
theorem d14_184 : decode method_4_code 184 = .ok (.aload_n 0, 1) := by decide +kernel
theorem d14_185 : decode method_4_code 185 = .ok (.iconst 5, 1) := by decide +kernel
theorem d14_186 : decode method_4_code 186 = .ok (.lload_n 3, 1) := by decide +kernel
theorem d14_187 : decode method_4_code 187 = .ok (.invokestatic 41, 3) := by decide +kernel
theorem d14_190 : decode method_4_code 190 = .ok (.castore, 1) := by decide +kernel
theorem d14_191 : decode method_4_code 191 = .ok (.lload_n 3, 1) := by decide +kernel
theorem d14_192 : decode method_4_code 192 = .ok (.ldc2_w 36, 3) := by decide +kernel
theorem d14_195 : decode method_4_code 195 = .ok (.ldiv, 1) := by decide +kernel
theorem d14_196 : decode method_4_code 196 = .ok (.lstore_n 3, 1) := by decide +kernel
theorem d14_197 : decode method_4_code 197 = .ok (.aload_n 0, 1) := by decide +kernel
theorem d14_198 : decode method_4_code 198 = .ok (.iconst 4, 1) := by decide +kernel
theorem d14_199 : decode method_4_code 199 = .ok (.lload_n 3, 1) := by decide +kernel
theorem d14_200 : decode method_4_code 200 = .ok (.invokestatic 41, 3) := by decide +kernel
theorem d14_203 : decode method_4_code 203 = .ok (.castore, 1) := by decide +kernel
theorem d14_204 : decode method_4_code 204 = .ok (.lload_n 3, 1) := by decide +kernel
theorem d14_205 : decode method_4_code 205 = .ok (.ldc2_w 36, 3) := by decide +kernel
theorem d14_208 : decode method_4_code 208 = .ok (.ldiv, 1) := by decide +kernel
theorem d14_209 : decode method_4_code 209 = .ok (.lstore_n 3, 1) := by decide +kernel
theorem d14_210 : decode method_4_code 210 = .ok (.aload_n 0, 1) := by decide +kernel
theorem d14_211 : decode method_4_code 211 = .ok (.iconst 3, 1) := by decide +kernel
theorem d14_212 : decode method_4_code 212 = .ok (.lload_n 3, 1) := by decide +kernel
theorem d14_213 : decode method_4_code 213 = .ok (.invokestatic 41, 3) := by decide +kernel
theorem d14_216 : decode method_4_code 216 = .ok (.castore, 1) := by decide +kernel
theorem d14_217 : decode method_4_code 217 = .ok (.lload_n 3, 1) := by decide +kernel
theorem d14_218 : decode method_4_code 218 = .ok (.ldc2_w 36, 3) := by decide +kernel
theorem d14_221 : decode method_4_code 221 = .ok (.ldiv, 1) := by decide +kernel
theorem d14_222 : decode method_4_code 222 = .ok (.lstore_n 3, 1) := by decide +kernel
theorem d14_223 : decode method_4_code 223 = .ok (.aload_n 0, 1) := by decide +kernel
theorem d14_224 : decode method_4_code 224 = .ok (.iconst 2, 1) := by decide +kernel
theorem d14_225 : decode method_4_code 225 = .ok (.lload_n 3, 1) := by decide +kernel
theorem d14_226 : decode method_4_code 226 = .ok (.invokestatic 41, 3) := by decide +kernel
theorem d14_229 : decode method_4_code 229 = .ok (.castore, 1) := by decide +kernel
theorem d14_230 : decode method_4_code 230 = .ok (.lload_n 3, 1) := by decide +kernel
theorem d14_231 : decode method_4_code 231 = .ok (.ldc2_w 36, 3) := by decide +kernel
theorem d14_234 : decode method_4_code 234 = .ok (.ldiv, 1) := by decide +kernel
theorem d14_235 : decode method_4_code 235 = .ok (.lstore_n 3, 1) := by decide +kernel
theorem d14_236 : decode method_4_code 236 = .ok (.aload_n 0, 1) := by decide +kernel
theorem d14_237 : decode method_4_code 237 = .ok (.iconst 1, 1) := by decide +kernel
theorem d14_238 : decode method_4_code 238 = .ok (.lload_n 3, 1) := by decide +kernel
theorem d14_239 : decode method_4_code 239 = .ok (.invokestatic 41, 3) := by decide +kernel
theorem d14_242 : decode method_4_code 242 = .ok (.castore, 1) := by decide +kernel
theorem d14_243 : decode method_4_code 243 = .ok (.return_, 1) := by decide +kernel
theorem d15_0 : decode method_3_code 0 = .ok (.bipush 48, 2) := by decide +kernel
theorem d15_2 : decode method_3_code 2 = .ok (.lload_n 0, 1) := by decide +kernel
theorem d15_3 : decode method_3_code 3 = .ok (.ldc2_w 36, 3) := by decide +kernel
theorem d15_6 : decode method_3_code 6 = .ok (.lrem, 1) := by decide +kernel
theorem d15_7 : decode method_3_code 7 = .ok (.l2i, 1) := by decide +kernel
theorem d15_8 : decode method_3_code 8 = .ok (.iadd, 1) := by decide +kernel
theorem d15_9 : decode method_3_code 9 = .ok (.i2c, 1) := by decide +kernel
theorem d15_10 : decode method_3_code 10 = .ok (.ireturn, 1) := by decide +kernel
theorem d16_0 : decode jdk_42_method_3_code 0 = .ok (.aload_n 0, 1) := by decide +kernel
theorem d16_1 : decode jdk_42_method_3_code 1 = .ok (.aload_n 1, 1) := by decide +kernel
theorem d16_2 : decode jdk_42_method_3_code 2 = .ok (.iconst 0, 1) := by decide +kernel
theorem d16_3 : decode jdk_42_method_3_code 3 = .ok (.aload_n 1, 1) := by decide +kernel
theorem d16_4 : decode jdk_42_method_3_code 4 = .ok (.arraylength, 1) := by decide +kernel
theorem d16_5 : decode jdk_42_method_3_code 5 = .ok (.aconst_null, 1) := by decide +kernel
theorem d16_6 : decode jdk_42_method_3_code 6 = .ok (.invokespecial 27, 3) := by decide +kernel
theorem d16_9 : decode jdk_42_method_3_code 9 = .ok (.return_, 1) := by decide +kernel
theorem d17_0 : decode jdk_42_method_149_code 0 = .ok (.aload_n 0, 1) := by decide +kernel
theorem d17_1 : decode jdk_42_method_149_code 1 = .ok (.invokespecial 1, 3) := by decide +kernel
theorem d17_4 : decode jdk_42_method_149_code 4 = .ok (.iload_n 3, 1) := by decide +kernel
theorem d17_5 : decode jdk_42_method_149_code 5 = .ok (.ifCond .ne 22, 3) := by decide +kernel
theorem d17_27 : decode jdk_42_method_149_code 27 = .ok (.getstatic 38, 3) := by decide +kernel
theorem d17_30 : decode jdk_42_method_149_code 30 = .ok (.ifCond .eq 28, 3) := by decide +kernel
theorem d17_33 : decode jdk_42_method_149_code 33 = .ok (.aload_n 1, 1) := by decide +kernel
theorem d17_34 : decode jdk_42_method_149_code 34 = .ok (.iload_n 2, 1) := by decide +kernel
theorem d17_35 : decode jdk_42_method_149_code 35 = .ok (.iload_n 3, 1) := by decide +kernel
theorem d17_36 : decode jdk_42_method_149_code 36 = .ok (.invokestatic 177, 3) := by decide +kernel
theorem d17_39 : decode jdk_42_method_149_code 39 = .ok (.astore 5, 2) := by decide +kernel
theorem d17_41 : decode jdk_42_method_149_code 41 = .ok (.aload_n 0, 1) := by decide +kernel
theorem d17_42 : decode jdk_42_method_149_code 42 = .ok (.aload 5, 2) := by decide +kernel
theorem d17_44 : decode jdk_42_method_149_code 44 = .ok (.iload_n 3, 1) := by decide +kernel
theorem d17_45 : decode jdk_42_method_149_code 45 = .ok (.invokestatic 47, 3) := by decide +kernel
theorem d17_48 : decode jdk_42_method_149_code 48 = .ok (.putfield 15, 3) := by decide +kernel
theorem d17_51 : decode jdk_42_method_149_code 51 = .ok (.aload_n 0, 1) := by decide +kernel
theorem d17_52 : decode jdk_42_method_149_code 52 = .ok (.aload 5, 2) := by decide +kernel
theorem d17_54 : decode jdk_42_method_149_code 54 = .ok (.putfield 9, 3) := by decide +kernel
theorem d17_57 : decode jdk_42_method_149_code 57 = .ok (.return_, 1) := by decide +kernel
theorem d18_0 : decode jdk_52_method_16_code 0 = .ok (.iload_n 2, 1) := by decide +kernel
theorem d18_1 : decode jdk_52_method_16_code 1 = .ok (.newarray .byte, 2) := by decide +kernel
theorem d18_3 : decode jdk_52_method_16_code 3 = .ok (.astore_n 3, 1) := by decide +kernel
theorem d18_4 : decode jdk_52_method_16_code 4 = .ok (.aload_n 0, 1) := by decide +kernel
theorem d18_5 : decode jdk_52_method_16_code 5 = .ok (.iload_n 1, 1) := by decide +kernel
theorem d18_6 : decode jdk_52_method_16_code 6 = .ok (.aload_n 3, 1) := by decide +kernel
theorem d18_7 : decode jdk_52_method_16_code 7 = .ok (.iconst 0, 1) := by decide +kernel
theorem d18_8 : decode jdk_52_method_16_code 8 = .ok (.iload_n 2, 1) := by decide +kernel
theorem d18_9 : decode jdk_52_method_16_code 9 = .ok (.invokestatic 115, 3) := by decide +kernel
theorem d18_12 : decode jdk_52_method_16_code 12 = .ok (.istore 4, 2) := by decide +kernel
theorem d18_14 : decode jdk_52_method_16_code 14 = .ok (.iload 4, 2) := by decide +kernel
theorem d18_16 : decode jdk_52_method_16_code 16 = .ok (.iload_n 2, 1) := by decide +kernel
theorem d18_17 : decode jdk_52_method_16_code 17 = .ok (.if_icmp .eq 40, 3) := by decide +kernel
theorem d18_57 : decode jdk_52_method_16_code 57 = .ok (.aload_n 3, 1) := by decide +kernel
theorem d18_58 : decode jdk_52_method_16_code 58 = .ok (.areturn, 1) := by decide +kernel
theorem d19_0 : decode jdk_52_method_21_code 0 = .ok (.iconst 0, 1) := by decide +kernel
theorem d19_1 : decode jdk_52_method_21_code 1 = .ok (.istore 5, 2) := by decide +kernel
theorem d19_3 : decode jdk_52_method_21_code 3 = .ok (.iload 5, 2) := by decide +kernel
theorem d19_5 : decode jdk_52_method_21_code 5 = .ok (.iload 4, 2) := by decide +kernel
theorem d19_7 : decode jdk_52_method_21_code 7 = .ok (.if_icmp .ge 37, 3) := by decide +kernel
theorem d19_10 : decode jdk_52_method_21_code 10 = .ok (.aload_n 0, 1) := by decide +kernel
theorem d19_11 : decode jdk_52_method_21_code 11 = .ok (.iload_n 1, 1) := by decide +kernel
theorem d19_12 : decode jdk_52_method_21_code 12 = .ok (.caload, 1) := by decide +kernel
theorem d19_13 : decode jdk_52_method_21_code 13 = .ok (.istore 6, 2) := by decide +kernel
theorem d19_15 : decode jdk_52_method_21_code 15 = .ok (.iload 6, 2) := by decide +kernel
theorem d19_17 : decode jdk_52_method_21_code 17 = .ok (.sipush 255, 3) := by decide +kernel
theorem d19_20 : decode jdk_52_method_21_code 20 = .ok (.if_icmp .le 6, 3) := by decide +kernel
theorem d19_26 : decode jdk_52_method_21_code 26 = .ok (.aload_n 2, 1) := by decide +kernel
theorem d19_27 : decode jdk_52_method_21_code 27 = .ok (.iload_n 3, 1) := by decide +kernel
theorem d19_28 : decode jdk_52_method_21_code 28 = .ok (.iload 6, 2) := by decide +kernel
theorem d19_30 : decode jdk_52_method_21_code 30 = .ok (.i2b, 1) := by decide +kernel
theorem d19_31 : decode jdk_52_method_21_code 31 = .ok (.bastore, 1) := by decide +kernel
theorem d19_32 : decode jdk_52_method_21_code 32 = .ok (.iinc 1 1, 3) := by decide +kernel
theorem d19_35 : decode jdk_52_method_21_code 35 = .ok (.iinc 3 1, 3) := by decide +kernel
theorem d19_38 : decode jdk_52_method_21_code 38 = .ok (.iinc 5 1, 3) := by decide +kernel
theorem d19_41 : decode jdk_52_method_21_code 41 = .ok (.goto (-38), 3) := by decide +kernel
theorem d19_44 : decode jdk_52_method_21_code 44 = .ok (.iload 4, 2) := by decide +kernel
theorem d19_46 : decode jdk_52_method_21_code 46 = .ok (.ireturn, 1) := by decide +kernel
theorem d20_0 : decode jdk_52_method_15_code 0 = .ok (.iload_n 1, 1) := by decide +kernel
theorem d20_1 : decode jdk_52_method_15_code 1 = .ok (.aload_n 0, 1) := by decide +kernel
theorem d20_2 : decode jdk_52_method_15_code 2 = .ok (.arraylength, 1) := by decide +kernel
theorem d20_3 : decode jdk_52_method_15_code 3 = .ok (.isub, 1) := by decide +kernel
theorem d20_4 : decode jdk_52_method_15_code 4 = .ok (.bipush 31, 2) := by decide +kernel
theorem d20_6 : decode jdk_52_method_15_code 6 = .ok (.iushr, 1) := by decide +kernel
theorem d20_7 : decode jdk_52_method_15_code 7 = .ok (.i2b, 1) := by decide +kernel
theorem d20_8 : decode jdk_52_method_15_code 8 = .ok (.ireturn, 1) := by decide +kernel
theorem pn0 : plainFor (⟨"java/lang/String", "coder", "()B"⟩ : MethodName) = true := by first | exact plainFor_of_name (by first | (simp [plainName, overriddenIn]; done) | decide +kernel) | decide +kernel
theorem pn1 : plainFor (⟨"java/lang/String", "length", "()I"⟩ : MethodName) = true := by first | exact plainFor_of_name (by first | (simp [plainName, overriddenIn]; done) | decide +kernel) | decide +kernel
theorem pn2 : plainFor (⟨"java/lang/String", "isLatin1", "()Z"⟩ : MethodName) = true := by first | exact plainFor_of_name (by first | (simp [plainName, overriddenIn]; done) | decide +kernel) | decide +kernel
theorem pn3 : plainFor (⟨"jdk/internal/util/Preconditions", "checkIndex", "(IILjava/util/function/BiFunction;)I"⟩ : MethodName) = true := by first | exact plainFor_of_name (by first | (simp [plainName, overriddenIn]; done) | decide +kernel) | decide +kernel
theorem pn4 : plainFor (⟨"java/lang/String", "checkIndex", "(II)V"⟩ : MethodName) = true := by first | exact plainFor_of_name (by first | (simp [plainName, overriddenIn]; done) | decide +kernel) | decide +kernel
theorem pn5 : plainFor (⟨"java/lang/StringLatin1", "charAt", "([BI)C"⟩ : MethodName) = true := by first | exact plainFor_of_name (by first | (simp [plainName, overriddenIn]; done) | decide +kernel) | decide +kernel
theorem pn6 : plainFor (⟨"java/lang/String", "charAt", "(I)C"⟩ : MethodName) = true := by first | exact plainFor_of_name (by first | (simp [plainName, overriddenIn]; done) | decide +kernel) | decide +kernel
theorem pn7 : plainFor (⟨"java/lang/StringUTF16", "compress", "([CI[BII)I"⟩ : MethodName) = true := by first | exact plainFor_of_name (by first | (simp [plainName, overriddenIn]; done) | decide +kernel) | decide +kernel
theorem pn8 : plainFor (⟨"java/lang/StringUTF16", "compress", "([CII)[B"⟩ : MethodName) = true := by first | exact plainFor_of_name (by first | (simp [plainName, overriddenIn]; done) | decide +kernel) | decide +kernel
theorem pn9 : plainFor (⟨"java/lang/StringUTF16", "coderFromArrayLen", "([BI)B"⟩ : MethodName) = true := by first | exact plainFor_of_name (by first | (simp [plainName, overriddenIn]; done) | decide +kernel) | decide +kernel
theorem pn10 : plainFor (⟨"java/lang/String", "<init>", "([CIILjava/lang/Void;)V"⟩ : MethodName) = true := by first | exact plainFor_of_name (by first | (simp [plainName, overriddenIn]; done) | decide +kernel) | decide +kernel
theorem pn11 : plainFor (⟨"java/lang/String", "<init>", "([C)V"⟩ : MethodName) = true := by first | exact plainFor_of_name (by first | (simp [plainName, overriddenIn]; done) | decide +kernel) | decide +kernel
theorem pn12 : plainFor (⟨"java/lang/StringLatin1", "canEncode", "(C)Z"⟩ : MethodName) = true := by first | exact plainFor_of_name (by first | (simp [plainName, overriddenIn]; done) | decide +kernel) | decide +kernel
theorem pn13 : plainFor (⟨"java/lang/StringLatin1", "toBytes", "(C)[B"⟩ : MethodName) = true := by first | exact plainFor_of_name (by first | (simp [plainName, overriddenIn]; done) | decide +kernel) | decide +kernel
theorem pn14 : plainFor (⟨"java/lang/String", "<init>", "([BB)V"⟩ : MethodName) = true := by first | exact plainFor_of_name (by first | (simp [plainName, overriddenIn]; done) | decide +kernel) | decide +kernel
theorem pn15 : plainFor (⟨"java/lang/String", "valueOf", "(C)Ljava/lang/String;"⟩ : MethodName) = true := by first | exact plainFor_of_name (by first | (simp [plainName, overriddenIn]; done) | decide +kernel) | decide +kernel
theorem pn16 : plainFor (⟨"com/example/wrange/wrange/Fragment", "parseNumber", "(Ljava/lang/String;)J"⟩ : MethodName) = true := by first | exact plainFor_of_name (by first | (simp [plainName, overriddenIn]; done) | decide +kernel) | decide +kernel
theorem pn17 : plainFor (⟨"com/example/wrange/wrange/FragmentParseNumberPinLaw", "digit", "(J)C"⟩ : MethodName) = true := by first | exact plainFor_of_name (by first | (simp [plainName, overriddenIn]; done) | decide +kernel) | decide +kernel
theorem pn18 : plainFor (⟨"com/example/wrange/wrange/FragmentParseNumberPinLaw", "fill", "([CJ)V"⟩ : MethodName) = true := by first | exact plainFor_of_name (by first | (simp [plainName, overriddenIn]; done) | decide +kernel) | decide +kernel
theorem pn19 : plainFor (⟨"com/example/wrange/wrange/FragmentParseNumberPinLaw", "law", "(JIII)Z"⟩ : MethodName) = true := by first | exact plainFor_of_name (by first | (simp [plainName, overriddenIn]; done) | decide +kernel) | decide +kernel
theorem pd0 : parseMethodDescriptor "()B" = some ⟨[], some .byte⟩ := by decide +kernel
theorem pd1 : parseMethodDescriptor "(IILjava/util/function/BiFunction;)I" = some ⟨[.int, .int, (.object "java/util/function/BiFunction")], some .int⟩ := by decide +kernel
theorem pd2 : parseMethodDescriptor "(II)V" = some ⟨[.int, .int], none⟩ := by decide +kernel
theorem pd3 : parseMethodDescriptor "()Z" = some ⟨[], some .boolean⟩ := by decide +kernel
theorem pd4 : parseMethodDescriptor "([BI)C" = some ⟨[(.array .byte), .int], some .char⟩ := by decide +kernel
theorem pd5 : parseMethodDescriptor "([CI[BII)I" = some ⟨[(.array .char), .int, (.array .byte), .int, .int], some .int⟩ := by decide +kernel
theorem pd6 : parseMethodDescriptor "([CII)[B" = some ⟨[(.array .char), .int, .int], some (.array .byte)⟩ := by decide +kernel
theorem pd7 : parseMethodDescriptor "([BI)B" = some ⟨[(.array .byte), .int], some .byte⟩ := by decide +kernel
theorem pd8 : parseMethodDescriptor "([CIILjava/lang/Void;)V" = some ⟨[(.array .char), .int, .int, (.object "java/lang/Void")], none⟩ := by decide +kernel
theorem pd9 : parseMethodDescriptor "(C)Z" = some ⟨[.char], some .boolean⟩ := by decide +kernel
theorem pd10 : parseMethodDescriptor "(C)[B" = some ⟨[.char], some (.array .byte)⟩ := by decide +kernel
theorem pd11 : parseMethodDescriptor "([BB)V" = some ⟨[(.array .byte), .byte], none⟩ := by decide +kernel
theorem pd12 : parseMethodDescriptor "()I" = some ⟨[], some .int⟩ := by decide +kernel
theorem pd13 : parseMethodDescriptor "(I)C" = some ⟨[.int], some .char⟩ := by decide +kernel
theorem pd14 : parseMethodDescriptor "(J)C" = some ⟨[.long], some .char⟩ := by decide +kernel
theorem pd15 : parseMethodDescriptor "([CJ)V" = some ⟨[(.array .char), .long], none⟩ := by decide +kernel
theorem pd16 : parseMethodDescriptor "([C)V" = some ⟨[(.array .char)], none⟩ := by decide +kernel
theorem pd17 : parseMethodDescriptor "(Ljava/lang/String;)J" = some ⟨[(.object "java/lang/String")], some .long⟩ := by decide +kernel
theorem pd18 : parseMethodDescriptor "(C)Ljava/lang/String;" = some ⟨[.char], some (.object "java/lang/String")⟩ := by decide +kernel
theorem sn0 {Z : State} {a0 : Array Value} (hw : ∀ d ∈ tables_1, d.before a0 Z = true) : Jvm.RoadKit.slotOf Z "java/lang/String" "value" "[B" ≠ Jvm.RoadKit.slotOf Z "java/lang/String" "coder" "B" := slot_ne (C := "java/lang/String") (Or.inr (w7 hw)) (Or.inr (w8 hw)) (by decide) (t := (.array .byte)) (by decide) (t' := .byte) (by decide)
theorem sn1 {Z : State} {a0 : Array Value} (hw : ∀ d ∈ tables_1, d.before a0 Z = true) : Jvm.RoadKit.slotOf Z "java/lang/String" "coder" "B" ≠ Jvm.RoadKit.slotOf Z "java/lang/String" "value" "[B" := slot_ne (C := "java/lang/String") (Or.inr (w8 hw)) (Or.inr (w7 hw)) (by decide) (t := .byte) (by decide) (t' := (.array .byte)) (by decide)

/-! plain: the number that digits write, cut at the largest long -/
def own_pn : List Nat → Nat → Nat
  | [], v => v
  | c :: cs, v => if (9223372036854775807 - (c - 48)) / 10 < v then 9223372036854775807 else own_pn cs (v * 10 + (c - 48))
def own_val : List Nat → Nat → Nat
  | [], v => v
  | c :: cs, v => own_val cs (v * 10 + (c - 48))
theorem own_val_le : ∀ (cs : List Nat) (v : Nat), v ≤ own_val cs v
  | [], v => Nat.le_refl v
  | c :: cs, v => Nat.le_trans (by omega) (own_val_le cs (v * 10 + (c - 48)))
theorem own_pn_eq : ∀ (cs : List Nat) (v : Nat), (∀ c ∈ cs, 48 ≤ c ∧ c ≤ 57) → v ≤ 9223372036854775807 → own_pn cs v = min (own_val cs v) 9223372036854775807
  | [], v, _, hv => by rw [own_pn, own_val]; omega
  | c :: cs, v, hc, hv => by
    have h1 := hc c (List.mem_cons_self ..)
    have h2 := own_val_le cs (v * 10 + (c - 48))
    rw [own_pn, own_val]
    split
    · omega
    · exact own_pn_eq cs _ (fun d hd => hc d (List.mem_cons_of_mem _ hd)) (by omega)
def own_digs (d a b : Nat) : List Nat := [48 + d, 48 + (a / 10 / 10 / 10 / 10 / 10 / 10 / 10 / 10 / 10 / 10 / 10 / 10 / 10 / 10 / 10 / 10 / 10) % 10, 48 + (a / 10 / 10 / 10 / 10 / 10 / 10 / 10 / 10 / 10 / 10 / 10 / 10 / 10 / 10 / 10 / 10) % 10, 48 + (a / 10 / 10 / 10 / 10 / 10 / 10 / 10 / 10 / 10 / 10 / 10 / 10 / 10 / 10 / 10) % 10, 48 + (a / 10 / 10 / 10 / 10 / 10 / 10 / 10 / 10 / 10 / 10 / 10 / 10 / 10 / 10) % 10, 48 + (a / 10 / 10 / 10 / 10 / 10 / 10 / 10 / 10 / 10 / 10 / 10 / 10 / 10) % 10, 48 + (a / 10 / 10 / 10 / 10 / 10 / 10 / 10 / 10 / 10 / 10 / 10 / 10) % 10, 48 + (a / 10 / 10 / 10 / 10 / 10 / 10 / 10 / 10 / 10 / 10 / 10) % 10, 48 + (a / 10 / 10 / 10 / 10 / 10 / 10 / 10 / 10 / 10 / 10) % 10, 48 + (a / 10 / 10 / 10 / 10 / 10 / 10 / 10 / 10 / 10) % 10, 48 + (a / 10 / 10 / 10 / 10 / 10 / 10 / 10 / 10) % 10, 48 + (a / 10 / 10 / 10 / 10 / 10 / 10 / 10) % 10, 48 + (a / 10 / 10 / 10 / 10 / 10 / 10) % 10, 48 + (a / 10 / 10 / 10 / 10 / 10) % 10, 48 + (a / 10 / 10 / 10 / 10) % 10, 48 + (a / 10 / 10 / 10) % 10, 48 + (a / 10 / 10) % 10, 48 + (a / 10) % 10, 48 + (a) % 10, 48 + b]
theorem own_digs_ok {d a b : Nat} (hd : d < 10) (hb : b < 10) : ∀ c ∈ own_digs d a b, 48 ≤ c ∧ c ≤ 57 := by
  intro c hc
  simp only [own_digs, List.mem_cons, List.not_mem_nil, or_false] at hc
  rcases hc with rfl | rfl | rfl | rfl | rfl | rfl | rfl | rfl | rfl | rfl | rfl | rfl | rfl | rfl | rfl | rfl | rfl | rfl | rfl | rfl <;> omega
theorem own_digs_val {d a b : Nat} (ha : a < 1000000000000000000) : own_val (own_digs d a b) 0 = d * 10000000000000000000 + a * 10 + b := by
  simp only [own_digs, own_val, Nat.add_sub_cancel_left]
  omega
theorem own_law_max {d a b : Nat} (hd : d < 10) (hb : b < 10) (ha : a < 1000000000000000000) (h : 9223372036854775807 ≤ d * 10000000000000000000 + a * 10 + b) : i64 (own_pn (own_digs d a b) 0) = (9223372036854775807 : Int64) := by
  rw [own_pn_eq _ 0 (own_digs_ok hd hb) (by decide), own_digs_val ha, Nat.min_eq_right h]; rfl
theorem own_law_val {d a b : Nat} (hd : d < 10) (hb : b < 10) (ha : a < 1000000000000000000) (h0 : d = 0) (h : a * 10 + b ≤ 9223372036854775807) : i64 (own_pn (own_digs d a b) 0) = i64 a * (10 : Int64) + (i32 b).toInt64 := by
  have e : d * 10000000000000000000 + a * 10 + b = a * 10 + b := by subst h0; omega
  rw [own_pn_eq _ 0 (own_digs_ok hd hb) (by decide), own_digs_val ha, e, Nat.min_eq_left h, i64_of32 (by omega), show i64 a * (10 : Int64) = i64 (a * 10) from i64_mul a 10, i64_add]
theorem own_law_one {b : Nat} (hb : b < 10) : i64 (own_pn [48 + b] 0) = (i32 b).toInt64 := by
  have e : own_pn [48 + b] 0 = b := by
    rw [own_pn_eq [48 + b] 0 (by intro c hc; rw [List.mem_singleton] at hc; omega) (by decide)]
    simp only [own_val]; omega
  rw [e, i64_of32 (by omega)]

theorem own_ss {s : State} {args : Array Value} (hsets : ∀ w ∈ jdkStatics_1, w.before args s = true) : ∃ (cc : Int32) (fv : Value), own_SS s cc fv := by
  have h1 := Cond.before_iff.mp (hsets _ (List.mem_of_getElem? (i := 1) rfl))
  have h2 := Cond.before_iff.mp (hsets _ (List.mem_of_getElem? (i := 2) rfl))
  have h8 := Cond.before_iff.mp (hsets _ (List.mem_of_getElem? (i := 8) rfl))
  obtain ⟨cc, ec⟩ := is_v h1
  obtain ⟨fv, ef, hr⟩ := isR_v h8
  refine ⟨cc, fv, Sta.start ec (Or.inl (hsets _ (List.mem_of_getElem? (i := 0) rfl))), fun q => ?_, Sta.start ef (Or.inl (hsets _ (List.mem_of_getElem? (i := 7) rfl))), hr⟩
  have x1 := not_v h2
  have x2 := eq_i ec (Term.int_eval 0) (by rw [q])
  rw [x2] at x1
  cases x1

set_option maxRecDepth 65536 in
set_option maxHeartbeats 4000000 in
theorem c_coder (l : Launch) (Z : State) (a0 : Array Value) (hw : ∀ d ∈ tables_1, d.before a0 Z = true) (n0 : Nat) (h0 : Heap) (cc : Int32) (fv : Value) (ss : own_SS Z cc fv) (ol : Old Z n0 h0) (a : Nat) (F : Fld Z h0 a "java/lang/String" "coder" "B" (.int 0)) :
    Con l [] (⟨"java/lang/String", "coder", "()B"⟩ : MethodName) jdk_42_method_152_code 1 (some .byte) ({ frames := 0, cells := 0, slots := 0, locals := 0 } : Room) Z #[(.ref a)] h0 n0 (fun v h => v = some (.int 0) ∧ h0 = h) := by
  refine enter (Ls := #[.val (.ref a)]) pn0 (fun m => by first | (simp [entryFrame, mkF, argsToLocals, Value.category]; done) | rfl) ?_
  intro K C
  refine r_getS C (pc' := 3) d3_0 rfl (w26 hw) Via.refl (ss.1.ext ol.2) ?_
  refine r_if_eq_f C (pc' := 6) d3_3 rfl ss.2.1 ?_
  refine r_aloadN C (pc' := 7) d3_6 rfl rfl rfl ?_
  refine r_getF C (pc' := 10) d3_7 rfl (w27 hw) Via.refl F ?_
  refine r_goto C (pc' := 14) d3_10 (by decide) (by decide) ?_
  exact r_breturn C d3_14 rfl (by decide) (by decide) (Nat.zero_le _) (fun _ _ => ⟨rfl, rfl⟩)
set_option maxRecDepth 65536 in
set_option maxHeartbeats 4000000 in
theorem c_length (l : Launch) (Z : State) (a0 : Array Value) (hw : ∀ d ∈ tables_1, d.before a0 Z = true) (n0 : Nat) (h0 : Heap) (cc : Int32) (fv : Value) (ss : own_SS Z cc fv) (ol : Old Z n0 h0) (a b : Nat) (k : ClassId) (cs : List Nat) (S : St Z h0 a b k cs) :
    Con l [] (⟨"java/lang/String", "length", "()I"⟩ : MethodName) jdk_42_method_54_code 1 (some .int) ({ frames := 1, cells := 0, slots := 0, locals := 13 } : Room) Z #[(.ref a)] h0 n0 (fun v h => v = some (.int (i32 cs.length)) ∧ h0 = h) := by
  refine enter (Ls := #[.val (.ref a)]) pn1 (fun m => by first | (simp [entryFrame, mkF, argsToLocals, Value.category]; done) | rfl) ?_
  intro K C
  refine r_aloadN C (pc' := 1) d2_0 rfl rfl rfl ?_
  refine r_getF C (pc' := 4) d2_1 rfl (w20 hw) Via.refl S.2.2.1 ?_
  refine r_lengthV C (pc' := 5) (n := cs.length) d2_4 rfl S.2.2.2 (own_blen cs) ?_
  refine r_aloadN C (pc' := 6) d2_5 rfl rfl rfl ?_
  refine r_callV C (pc' := 9) (argsL := []) (c_coder l Z a0 hw n0 h0 cc fv ss ol a S.2.1) S.1 d2_6 rfl (w21 hw) (w22 hw) (nfSel (z := ({ cls := "java/lang/String", name := "coder", desc := "()B" } : Jvm.MethodName)) (w24 hw)) (w24 hw) (w23 hw) (w4 hw) (w25 hw) (by decide) pd0 (st := [.int (i32 cs.length)]) rfl rfl rfl (W := 1) (Nat.le_of_eq rfl) (by decide) (by decide) (by decide) (by decide) (cells' := 0) (slots' := 0) rfl rfl ?_
  rintro _ _ ⟨rfl, rfl⟩
  show Run _ _ _ _ _ _ _ _ 9 #[.val (.ref a)] [.int (0 : Int32), .int (i32 cs.length)]
  refine r_ishr C (pc' := 10) d2_9 rfl ?_
  rw [own_shr0]
  exact r_ireturn C d2_10 (by decide) (by decide) (Nat.zero_le _) (fun _ _ => ⟨rfl, rfl⟩)
set_option maxRecDepth 65536 in
set_option maxHeartbeats 4000000 in
theorem c_isLatin1 (l : Launch) (Z : State) (a0 : Array Value) (hw : ∀ d ∈ tables_1, d.before a0 Z = true) (n0 : Nat) (h0 : Heap) (cc : Int32) (fv : Value) (ss : own_SS Z cc fv) (ol : Old Z n0 h0) (a : Nat) (F : Fld Z h0 a "java/lang/String" "coder" "B" (.int 0)) :
    Con l [] (⟨"java/lang/String", "isLatin1", "()Z"⟩ : MethodName) jdk_42_method_154_code 1 (some .boolean) ({ frames := 0, cells := 0, slots := 0, locals := 0 } : Room) Z #[(.ref a)] h0 n0 (fun v h => v = some (.int 1) ∧ h0 = h) := by
  refine enter (Ls := #[.val (.ref a)]) pn2 (fun m => by first | (simp [entryFrame, mkF, argsToLocals, Value.category]; done) | rfl) ?_
  intro K C
  refine r_getS C (pc' := 3) d10_0 rfl (w26 hw) Via.refl (ss.1.ext ol.2) ?_
  refine r_if_eq_f C (pc' := 6) d10_3 rfl ss.2.1 ?_
  refine r_aloadN C (pc' := 7) d10_6 rfl rfl rfl ?_
  refine r_getF C (pc' := 10) d10_7 rfl (w27 hw) Via.refl F ?_
  refine r_if_ne_f C (pc' := 13) d10_10 rfl (by decide) ?_
  refine r_iconst C (pc' := 14) (v := 1) d10_13 rfl rfl ?_
  refine r_goto C (pc' := 18) d10_14 (by decide) (by decide) ?_
  exact r_zreturn C d10_18 rfl (by decide) (by decide) (Nat.zero_le _) (fun _ _ => ⟨rfl, rfl⟩)
set_option maxRecDepth 65536 in
set_option maxHeartbeats 4000000 in
theorem c_pcheck (l : Launch) (Z : State) (a0 : Array Value) (hw : ∀ d ∈ tables_1, d.before a0 Z = true) (n0 : Nat) (h0 : Heap) (i n : Nat) (fv : Value) (hf : fv.isRef = true) (hn : n < 2147483648) (hi : i < n) :
    Con l [] (⟨"jdk/internal/util/Preconditions", "checkIndex", "(IILjava/util/function/BiFunction;)I"⟩ : MethodName) jdk_41_method_11_code 3 (some .int) ({ frames := 0, cells := 0, slots := 0, locals := 0 } : Room) Z #[(.int (i32 i)), (.int (i32 n)), fv] h0 n0 (fun v h => v = some (.int (i32 i)) ∧ h0 = h) := by
  refine enter (Ls := #[.val (.int (i32 i)), .val (.int (i32 n)), .val fv]) pn3 (fun m => by rcases ref_cases hf with rfl | ⟨zz, rfl⟩ <;> first | (simp [entryFrame, mkF, argsToLocals, Value.category]; done) | rfl) ?_
  intro K C
  refine r_iloadN C (pc' := 1) d13_0 rfl rfl ?_
  refine r_if_lt_f C (pc' := 4) d13_1 rfl (i32_nn (by omega)) ?_
  refine r_iloadN C (pc' := 5) d13_4 rfl rfl ?_
  refine r_iloadN C (pc' := 6) d13_5 rfl rfl ?_
  refine r_icmp_lt_t C (pc' := 16) d13_6 (by decide) (by decide) ((i32_lt (by omega) hn).mpr hi) ?_
  refine r_iloadN C (pc' := 17) d13_16 rfl rfl ?_
  exact r_ireturn C d13_17 (by decide) (by decide) (Nat.zero_le _) (fun _ _ => ⟨rfl, rfl⟩)
set_option maxRecDepth 65536 in
set_option maxHeartbeats 4000000 in
theorem c_scheck (l : Launch) (Z : State) (a0 : Array Value) (hw : ∀ d ∈ tables_1, d.before a0 Z = true) (n0 : Nat) (h0 : Heap) (cc : Int32) (fv : Value) (ss : own_SS Z cc fv) (ol : Old Z n0 h0) (i n : Nat) (hn : n < 2147483648) (hi : i < n) :
    Con l [] (⟨"java/lang/String", "checkIndex", "(II)V"⟩ : MethodName) jdk_42_method_155_code 2 none ({ frames := 1, cells := 0, slots := 0, locals := 14 } : Room) Z #[(.int (i32 i)), (.int (i32 n))] h0 n0 (fun v h => v = none ∧ h0 = h) := by
  refine enter (Ls := #[.val (.int (i32 i)), .val (.int (i32 n))]) pn4 (fun m => by first | (simp [entryFrame, mkF, argsToLocals, Value.category]; done) | rfl) ?_
  intro K C
  refine r_iloadN C (pc' := 1) d12_0 rfl rfl ?_
  refine r_iloadN C (pc' := 2) d12_1 rfl rfl ?_
  refine r_getS C (pc' := 5) d12_2 rfl (w62 hw) Via.refl (ss.2.2.1.ext ol.2) ?_
  refine r_callS C (pc' := 8) (argsL := [.int (i32 i), .int (i32 n), fv]) (c_pcheck l Z a0 hw n0 h0 i n fv ss.2.2.2 hn hi) d12_5 rfl (w64 hw) (w65 hw) (w63 hw) (w66 hw) (by decide) pd1 (st := []) rfl rfl rfl (W := 0) (Nat.le_of_eq rfl) (by decide) (by decide) (by decide) (by decide) (cells' := 0) (slots' := 0) rfl rfl ?_
  rintro _ _ ⟨rfl, rfl⟩
  show Run _ _ _ _ _ _ _ _ 8 #[.val (.int (i32 i)), .val (.int (i32 n))] [.int (i32 i)]
  refine r_pop C (pc' := 9) d12_8 rfl rfl ?_
  exact r_return C d12_9 (by decide) (by decide) (Nat.zero_le _) (fun _ _ => ⟨rfl, rfl⟩)
set_option maxRecDepth 65536 in
set_option maxHeartbeats 4000000 in
theorem c_l1charAt (l : Launch) (Z : State) (a0 : Array Value) (hw : ∀ d ∈ tables_1, d.before a0 Z = true) (n0 : Nat) (h0 : Heap) (cc : Int32) (fv : Value) (ss : own_SS Z cc fv) (ol : Old Z n0 h0) (b : Nat) (k : ClassId) (cs : List Nat) (A : AV Z h0 b k .byte ((cs.map by8).map Value.int) (.int 0)) (i c : Nat) (hc : cs[i]? = some c) (hb : c < 256) :
    Con l [] (⟨"java/lang/StringLatin1", "charAt", "([BI)C"⟩ : MethodName) jdk_43_method_2_code 2 (some .char) ({ frames := 2, cells := 0, slots := 0, locals := 27 } : Room) Z #[(.ref b), (.int (i32 i))] h0 n0 (fun v h => v = some (.int (i32 c)) ∧ h0 = h) := by
  refine enter (Ls := #[.val (.ref b), .val (.int (i32 i))]) pn5 (fun m => by first | (simp [entryFrame, mkF, argsToLocals, Value.category]; done) | rfl) ?_
  intro K C
  have hn : cs.length < 2147483648 := by have := A.2; rwa [own_blen] at this
  have hi := lt_of_get hc
  refine r_iloadN C (pc' := 1) d11_0 rfl rfl ?_
  refine r_aloadN C (pc' := 2) d11_1 rfl rfl rfl ?_
  refine r_lengthV C (pc' := 3) (n := cs.length) d11_2 rfl A (own_blen cs) ?_
  refine r_callS C (pc' := 6) (argsL := [.int (i32 i), .int (i32 cs.length)]) (c_scheck l Z a0 hw n0 h0 cc fv ss ol i cs.length hn hi) d11_3 rfl (w59 hw) (w60 hw) (w4 hw) (w61 hw) (by decide) pd2 (st := []) rfl rfl rfl (W := 0) (Nat.le_of_eq rfl) (by decide) (by decide) (by decide) (by decide) (cells' := 0) (slots' := 0) rfl rfl ?_
  rintro _ _ ⟨rfl, rfl⟩
  show Run _ _ _ _ _ _ _ _ 6 #[.val (.ref b), .val (.int (i32 i))] []
  refine r_aloadN C (pc' := 7) d11_6 rfl rfl rfl ?_
  refine r_iloadN C (pc' := 8) d11_7 rfl rfl ?_
  refine r_baloadV C (pc' := 9) (i := i) d11_8 rfl A rfl (own_bget hc) ?_
  refine r_sipush C (pc' := 12) (v := (255)) d11_9 rfl rfl ?_
  refine r_iand C (pc' := 13) d11_12 rfl ?_
  refine r_i2c C (pc' := 14) d11_13 rfl ?_
  rw [own_byte hb]
  exact r_creturn C d11_14 (own_narF ⟨c, by omega⟩) (by decide) (by decide) (Nat.zero_le _) (fun _ _ => ⟨rfl, rfl⟩)
set_option maxRecDepth 65536 in
set_option maxHeartbeats 4000000 in
theorem c_charAt (l : Launch) (Z : State) (a0 : Array Value) (hw : ∀ d ∈ tables_1, d.before a0 Z = true) (n0 : Nat) (h0 : Heap) (cc : Int32) (fv : Value) (ss : own_SS Z cc fv) (ol : Old Z n0 h0) (a b : Nat) (k : ClassId) (cs : List Nat) (S : St Z h0 a b k cs) (i c : Nat) (hc : cs[i]? = some c) (hb : c < 256) :
    Con l [] (⟨"java/lang/String", "charAt", "(I)C"⟩ : MethodName) jdk_42_method_56_code 2 (some .char) ({ frames := 3, cells := 0, slots := 0, locals := 40 } : Room) Z #[(.ref a), (.int (i32 i))] h0 n0 (fun v h => v = some (.int (i32 c)) ∧ h0 = h) := by
  refine enter (Ls := #[.val (.ref a), .val (.int (i32 i))]) pn6 (fun m => by first | (simp [entryFrame, mkF, argsToLocals, Value.category]; done) | rfl) ?_
  intro K C
  refine r_aloadN C (pc' := 1) d9_0 rfl rfl rfl ?_
  refine r_callV C (pc' := 4) (argsL := []) (c_isLatin1 l Z a0 hw n0 h0 cc fv ss ol a S.2.1) S.1 d9_1 rfl (w51 hw) (w52 hw) (nfSel (z := ({ cls := "java/lang/String", name := "isLatin1", desc := "()Z" } : Jvm.MethodName)) (w54 hw)) (w54 hw) (w53 hw) (w4 hw) (w55 hw) (by decide) pd3 (st := []) rfl rfl rfl (W := 0) (Nat.le_of_eq rfl) (by decide) (by decide) (by decide) (by decide) (cells' := 0) (slots' := 0) rfl rfl ?_
  rintro _ _ ⟨rfl, rfl⟩
  show Run _ _ _ _ _ _ _ _ 4 #[.val (.ref a), .val (.int (i32 i))] [.int (1 : Int32)]
  refine r_if_eq_f C (pc' := 7) d9_4 rfl (by decide) ?_
  refine r_aloadN C (pc' := 8) d9_7 rfl rfl rfl ?_
  refine r_getF C (pc' := 11) d9_8 rfl (w20 hw) Via.refl S.2.2.1 ?_
  refine r_iloadN C (pc' := 12) d9_11 rfl rfl ?_
  refine r_callS C (pc' := 15) (argsL := [.ref b, .int (i32 i)]) (c_l1charAt l Z a0 hw n0 _ cc fv ss ol b k cs S.2.2.2 i c hc hb) d9_12 rfl (w56 hw) (w57 hw) (w33 hw) (w58 hw) (by decide) pd4 (st := []) rfl rfl rfl (W := 0) (Nat.le_of_eq rfl) (by decide) (by decide) (by decide) (by decide) (cells' := 0) (slots' := 0) rfl rfl ?_
  rintro _ _ ⟨rfl, rfl⟩
  show Run _ _ _ _ _ _ _ _ 15 #[.val (.ref a), .val (.int (i32 i))] [.int (i32 c)]
  exact r_creturn C d9_15 (own_narF ⟨c, by omega⟩) (by decide) (by decide) (Nat.zero_le _) (fun _ _ => ⟨rfl, rfl⟩)
set_option maxRecDepth 65536 in
set_option maxHeartbeats 4000000 in
theorem c_comp0 (l : Launch) (Z : State) (a0 : Array Value) (hw : ∀ d ∈ tables_1, d.before a0 Z = true) (n0 : Nat) (h0 : Heap) (a b : Nat) (ka kb : ClassId) (cs : List Nat) (vs : List Value) (A : AV Z h0 a ka .char (cs.map vch) (.int 0)) (Bv : AV Z h0 b kb .byte vs (.int 0)) (hv : vs.length = cs.length) (hcs : ∀ c ∈ cs, c < 256) (ge : n0 ≤ b) (ne : a ≠ b) :
    Con l [] (⟨"java/lang/StringUTF16", "compress", "([CI[BII)I"⟩ : MethodName) jdk_52_method_21_code 7 (some .int) ({ frames := 0, cells := 0, slots := 0, locals := 0 } : Room) Z #[(.ref a), (.int (0 : Int32)), (.ref b), (.int (0 : Int32)), (.int (i32 cs.length))] h0 n0 (fun v h => v = some (.int (i32 cs.length)) ∧ Keep h0 h [b] ∧ AV Z h b kb .byte ((cs.map by8).map Value.int) (.int 0)) := by
  refine enter (Ls := #[.val (.ref a), .val (.int (0 : Int32)), .val (.ref b), .val (.int (0 : Int32)), .val (.int (i32 cs.length)), .unset, .unset]) pn7 (fun m => by first | (simp [entryFrame, mkF, argsToLocals, Value.category]; done) | rfl) ?_
  intro K C
  have hn : cs.length < 2147483648 := by have := A.2; rwa [own_clen] at this
  have loop : ∀ (m i : Nat) (h : Heap) (ws : List Value) (L6 : Slot), cs.length - i = m → i ≤ cs.length → ws.length = cs.length → ws.take i = ((cs.take i).map by8).map Value.int → Keep h0 h [b] → AV Z h b kb .byte ws (.int 0) → (L6 = .unset ∨ ∃ u, L6 = .val (.int u)) → Run l ({ frames := 0, cells := 0, slots := 0, locals := 0 } : Room) n0 (fun v h _ => v = some (.int (i32 cs.length)) ∧ Keep h0 h [b] ∧ AV Z h b kb .byte ((cs.map by8).map Value.int) (.int 0)) K h 0 0 3 #[.val (.ref a), .val (.int (i32 i)), .val (.ref b), .val (.int (i32 i)), .val (.int (i32 cs.length)), .val (.int (i32 i)), L6] [] := by
    intro m
    induction m with
    | zero =>
      intro i h ws L6 hm hi hl ht Kp B hL
      obtain rfl : i = cs.length := by omega
      refine r_iload C (pc' := 5) d19_3 rfl rfl ?_
      refine r_iload C (pc' := 7) d19_5 rfl rfl ?_
      refine r_icmp_ge_t C (pc' := 44) d19_7 (by decide) (by decide) (fun q => absurd ((i32_lt hn hn).mp q) (Nat.lt_irrefl _)) ?_
      refine r_iload C (pc' := 46) d19_44 rfl rfl ?_
      exact r_ireturn C d19_46 (by decide) (by decide) (Nat.zero_le _) (fun _ _ => ⟨rfl, Kp, by rw [← hl, List.take_length, hl, List.take_length] at ht; rw [← ht]; exact B⟩)
    | succ m ih =>
      intro i h ws L6 hm hi hl ht Kp B hL
      have hlt : i < cs.length := by omega
      obtain ⟨c, hc⟩ : ∃ c, cs[i]? = some c := ⟨_, List.getElem?_eq_getElem hlt⟩
      have hb := hcs c (List.mem_of_getElem? hc)
      refine r_iload C (pc' := 5) d19_3 rfl rfl ?_
      refine r_iload C (pc' := 7) d19_5 rfl rfl ?_
      refine r_icmp_ge_f C (pc' := 10) d19_7 rfl ((i32_lt (by omega) hn).mpr hlt) ?_
      refine r_aloadN C (pc' := 11) d19_10 rfl rfl rfl ?_
      refine r_iloadN C (pc' := 12) d19_11 rfl rfl ?_
      refine r_caloadV C (pc' := 13) (i := i) d19_12 rfl (A.keep Kp (ninS (nn ne) nin0)) rfl (own_cget hc) ?_
      refine r_istore C (pc' := 15) (Ls' := #[.val (.ref a), .val (.int (i32 i)), .val (.ref b), .val (.int (i32 i)), .val (.int (i32 cs.length)), .val (.int (i32 i)), .val (.int (i32 c))]) d19_13 rfl (by rcases hL with rfl | ⟨u, rfl⟩ <;> rfl) ?_
      refine r_iload C (pc' := 17) d19_15 rfl rfl ?_
      refine r_sipush C (pc' := 20) (v := (255)) d19_17 rfl rfl ?_
      refine r_icmp_le_t C (pc' := 26) d19_20 (by decide) (by decide) (fun q => absurd ((i32_lt (a := 255) (by decide) (by omega)).mp q) (by omega)) ?_
      refine r_aloadN C (pc' := 27) d19_26 rfl rfl rfl ?_
      refine r_iloadN C (pc' := 28) d19_27 rfl rfl ?_
      refine r_iload C (pc' := 30) d19_28 rfl rfl ?_
      refine r_i2b C (pc' := 31) d19_30 rfl ?_
      refine r_bastoreV C (pc' := 32) (i := i) d19_31 rfl B rfl (by omega) (fits_nar_byte _) ge ?_
      intro h2 W B'
      refine r_iinc C (pc' := 35) (v := (1)) (Ls' := #[.val (.ref a), .val (.int ((i32 i) + (1 : Int32))), .val (.ref b), .val (.int (i32 i)), .val (.int (i32 cs.length)), .val (.int (i32 i)), .val (.int (i32 c))]) d19_32 rfl rfl rfl rfl ?_
      refine r_iinc C (pc' := 38) (v := (1)) (Ls' := #[.val (.ref a), .val (.int ((i32 i) + (1 : Int32))), .val (.ref b), .val (.int ((i32 i) + (1 : Int32))), .val (.int (i32 cs.length)), .val (.int (i32 i)), .val (.int (i32 c))]) d19_35 rfl rfl rfl rfl ?_
      refine r_iinc C (pc' := 41) (v := (1)) (Ls' := #[.val (.ref a), .val (.int ((i32 i) + (1 : Int32))), .val (.ref b), .val (.int ((i32 i) + (1 : Int32))), .val (.int (i32 cs.length)), .val (.int ((i32 i) + (1 : Int32))), .val (.int (i32 c))]) d19_38 rfl rfl rfl rfl ?_
      refine r_goto C (pc' := 3) d19_41 (by decide) (by decide) ?_
      rw [show i32 i + (1 : Int32) = i32 (i + 1) from i32_add i 1]
      refine ih (i + 1) h2 _ _ (by omega) hlt (by rw [List.length_set]; exact hl) ?_ (Kp.wr W (Or.inl (by simp))) B' (Or.inr ⟨_, rfl⟩)
      rw [own_tset _ _ _ (by omega), ht, own_take1 hc, List.map_append, List.map_append]
      have e := own_bynar c; unfold by8 at e; rw [e]; rfl
  refine r_iconst C (pc' := 1) (v := 0) d19_0 rfl rfl ?_
  refine r_istore C (pc' := 3) (Ls' := #[.val (.ref a), .val (.int (0 : Int32)), .val (.ref b), .val (.int (0 : Int32)), .val (.int (i32 cs.length)), .val (.int (0 : Int32)), .unset]) d19_1 rfl rfl ?_
  refine loop _ 0 h0 _ _ rfl (Nat.zero_le _) hv rfl (Keep.refl _ _) Bv (Or.inl rfl)
set_option maxRecDepth 65536 in
set_option maxHeartbeats 4000000 in
theorem c_comp (l : Launch) (Z : State) (a0 : Array Value) (hw : ∀ d ∈ tables_1, d.before a0 Z = true) (n0 : Nat) (h0 : Heap) (hn : n0 ≤ h0.size) (a : Nat) (ka : ClassId) (cs : List Nat) (A : AV Z h0 a ka .char (cs.map vch) (.int 0)) (hcs : ∀ c ∈ cs, c < 256) (hcap : cs.length ≤ 20) :
    Con l [] (⟨"java/lang/StringUTF16", "compress", "([CII)[B"⟩ : MethodName) jdk_52_method_16_code 6 (some (.array .byte)) ({ frames := 1, cells := 1, slots := 20, locals := 18 } : Room) Z #[(.ref a), (.int (0 : Int32)), (.int (i32 cs.length))] h0 n0 (fun v h => ∃ (b : Nat) (kb : ClassId), v = some (.ref b) ∧ b = h0.size ∧ Keep h0 h [] ∧ AV Z h b kb .byte ((cs.map by8).map Value.int) (.int 0)) := by
  refine enter (Ls := #[.val (.ref a), .val (.int (0 : Int32)), .val (.int (i32 cs.length)), .unset, .unset, .unset]) pn8 (fun m => by first | (simp [entryFrame, mkF, argsToLocals, Value.category]; done) | rfl) ?_
  intro K C
  have hA := A.lt
  refine r_iloadN C (pc' := 1) d18_0 rfl rfl ?_
  refine r_newarrayV C (pc' := 3) (ty := .byte) (m := cs.length) (cap := 20) d18_1 rfl rfl (w6 hw) rfl hcap (by decide) (by decide) (by decide) ?_
  intro h1 b kb gb E1 B1
  refine r_astoreN C (pc' := 4) (Ls' := #[.val (.ref a), .val (.int (0 : Int32)), .val (.int (i32 cs.length)), .val (.ref b), .unset, .unset]) d18_3 rfl rfl rfl ?_
  refine r_aloadN C (pc' := 5) d18_4 rfl rfl rfl ?_
  refine r_iloadN C (pc' := 6) d18_5 rfl rfl ?_
  refine r_aloadN C (pc' := 7) d18_6 rfl rfl rfl ?_
  refine r_iconst C (pc' := 8) (v := 0) d18_7 rfl rfl ?_
  refine r_iloadN C (pc' := 9) d18_8 rfl rfl ?_
  refine r_callS C (pc' := 12) (argsL := [.ref a, .int (0 : Int32), .ref b, .int (0 : Int32), .int (i32 cs.length)]) (c_comp0 l Z a0 hw n0 h1 a b ka kb cs _ (A.ext E1) B1 (List.length_replicate ..) hcs (by omega) (by omega)) d18_9 rfl (w89 hw) (w90 hw) (w87 hw) (w91 hw) (by decide) pd5 (st := []) rfl rfl rfl (W := 0) (Nat.le_of_eq rfl) (by decide) (by decide) (by decide) (by decide) (cells' := 1) (slots' := 20) rfl rfl ?_
  rintro _ h2 ⟨rfl, K2, B2⟩
  show Run _ _ _ _ _ h2 _ _ 12 #[.val (.ref a), .val (.int (0 : Int32)), .val (.int (i32 cs.length)), .val (.ref b), .unset, .unset] [.int (i32 cs.length)]
  refine r_istore C (pc' := 14) (Ls' := #[.val (.ref a), .val (.int (0 : Int32)), .val (.int (i32 cs.length)), .val (.ref b), .val (.int (i32 cs.length)), .unset]) d18_12 rfl rfl ?_
  refine r_iload C (pc' := 16) d18_14 rfl rfl ?_
  refine r_iloadN C (pc' := 17) d18_16 rfl rfl ?_
  refine r_icmp_eq_t C (pc' := 57) d18_17 (by decide) (by decide) rfl ?_
  refine r_aloadN C (pc' := 58) d18_57 rfl rfl rfl ?_
  exact r_areturn C d18_58 rfl rfl (by decide) (by decide) (Nat.zero_le _) (fun _ _ => ⟨b, kb, rfl, gb, ((Keep.refl h0 []).ext E1).trans K2 (allS (Or.inr (by omega)) all0), B2⟩)
set_option maxRecDepth 65536 in
set_option maxHeartbeats 4000000 in
theorem c_coderLen (l : Launch) (Z : State) (a0 : Array Value) (hw : ∀ d ∈ tables_1, d.before a0 Z = true) (n0 : Nat) (h0 : Heap) (b : Nat) (k : ClassId) (vs : List Value) (n : Nat) (A : AV Z h0 b k .byte vs (.int 0)) (hv : vs.length = n) :
    Con l [] (⟨"java/lang/StringUTF16", "coderFromArrayLen", "([BI)B"⟩ : MethodName) jdk_52_method_15_code 2 (some .byte) ({ frames := 0, cells := 0, slots := 0, locals := 0 } : Room) Z #[(.ref b), (.int (i32 n))] h0 n0 (fun v h => v = some (.int 0) ∧ h0 = h) := by
  refine enter (Ls := #[.val (.ref b), .val (.int (i32 n))]) pn9 (fun m => by first | (simp [entryFrame, mkF, argsToLocals, Value.category]; done) | rfl) ?_
  intro K C
  refine r_iloadN C (pc' := 1) d20_0 rfl rfl ?_
  refine r_aloadN C (pc' := 2) d20_1 rfl rfl rfl ?_
  refine r_lengthV C (pc' := 3) (n := n) d20_2 rfl A hv ?_
  refine r_isub C (pc' := 4) d20_3 rfl ?_
  refine r_bipush C (pc' := 6) (v := (31)) d20_4 rfl rfl ?_
  refine r_iushr C (pc' := 7) d20_6 rfl ?_
  refine r_i2b C (pc' := 8) d20_7 rfl ?_
  rw [own_coder0]
  exact r_breturn C d20_8 rfl (by decide) (by decide) (Nat.zero_le _) (fun _ _ => ⟨rfl, rfl⟩)
set_option maxRecDepth 65536 in
set_option maxHeartbeats 4000000 in
theorem c_initCV (l : Launch) (Z : State) (a0 : Array Value) (hw : ∀ d ∈ tables_1, d.before a0 Z = true) (n0 : Nat) (h0 : Heap) (cc : Int32) (fv : Value) (ss : own_SS Z cc fv) (ol : Old Z n0 h0) (hn : n0 ≤ h0.size) (a ac : Nat) (kc : ClassId) (cs : List Nat) (ge : n0 ≤ a) (E : Exa Z h0 a "java/lang/String") (vo co : Value) (Fv : Fld Z h0 a "java/lang/String" "value" "[B" vo) (Fc : Fld Z h0 a "java/lang/String" "coder" "B" co) (A : AV Z h0 ac kc .char (cs.map vch) (.int 0)) (hcs : ∀ c ∈ cs, c < 256) (hne : cs.length ≠ 0) (hcap : cs.length ≤ 20) :
    Con l [] (⟨"java/lang/String", "<init>", "([CIILjava/lang/Void;)V"⟩ : MethodName) jdk_42_method_149_code 6 none ({ frames := 2, cells := 1, slots := 20, locals := 35 } : Room) Z #[(.ref a), (.ref ac), (.int (0 : Int32)), (.int (i32 cs.length)), .null] h0 n0 (fun v h => v = none ∧ Keep h0 h [a] ∧ ∃ (b : Nat) (k : ClassId), St Z h a b k cs ∧ b = h0.size) := by
  refine enter (Ls := #[.val (.ref a), .val (.ref ac), .val (.int (0 : Int32)), .val (.int (i32 cs.length)), .val .null, .unset]) pn10 (fun m => by first | (simp [entryFrame, mkF, argsToLocals, Value.category]; done) | rfl) ?_
  intro K C
  have hl : cs.length < 2147483648 := by have := A.2; rwa [own_clen] at this
  have ha := exaLt E
  refine r_aloadN C (pc' := 1) d17_0 rfl rfl rfl ?_
  refine r_initO C (pc' := 4) (W := 0) d17_1 rfl (w43 hw) (w44 hw) (w45 hw) rfl (by decide) (Nat.le_of_eq rfl) (by decide) ?_
  refine r_iloadN C (pc' := 5) d17_4 rfl rfl ?_
  refine r_if_ne_t C (pc' := 27) d17_5 (by decide) (by decide) (fun q => hne ((i32_eq (b := 0) hl (by decide)).mp q)) ?_
  refine r_getS C (pc' := 30) d17_27 rfl (w26 hw) Via.refl (ss.1.ext ol.2) ?_
  refine r_if_eq_f C (pc' := 33) d17_30 rfl ss.2.1 ?_
  refine r_aloadN C (pc' := 34) d17_33 rfl rfl rfl ?_
  refine r_iloadN C (pc' := 35) d17_34 rfl rfl ?_
  refine r_iloadN C (pc' := 36) d17_35 rfl rfl ?_
  refine r_callS C (pc' := 39) (argsL := [.ref ac, .int (0 : Int32), .int (i32 cs.length)]) (c_comp l Z a0 hw n0 h0 hn ac kc cs A hcs hcap) d17_36 rfl (w85 hw) (w86 hw) (w87 hw) (w88 hw) (by decide) pd6 (st := []) rfl rfl rfl (W := 0) (Nat.le_of_eq rfl) (by decide) (by decide) (by decide) (by decide) (cells' := 1) (slots' := 20) rfl rfl ?_
  rintro _ h1 ⟨b, k, rfl, gb, K1, B⟩
  show Run _ _ _ _ _ h1 _ _ 39 #[.val (.ref a), .val (.ref ac), .val (.int (0 : Int32)), .val (.int (i32 cs.length)), .val .null, .unset] [.ref b]
  have x1 := K1.1
  replace E := E.keep K1
  replace Fv := Fv.keep K1 nin0
  replace Fc := Fc.keep K1 nin0
  refine r_astore C (pc' := 41) (Ls' := #[.val (.ref a), .val (.ref ac), .val (.int (0 : Int32)), .val (.int (i32 cs.length)), .val .null, .val (.ref b)]) d17_39 rfl rfl rfl ?_
  refine r_aloadN C (pc' := 42) d17_41 rfl rfl rfl ?_
  refine r_aload C (pc' := 44) d17_42 rfl rfl rfl ?_
  refine r_iloadN C (pc' := 45) d17_44 rfl rfl ?_
  refine r_callS C (pc' := 48) (argsL := [.ref b, .int (i32 cs.length)]) (c_coderLen l Z a0 hw n0 h1 b k _ cs.length B (own_blen cs)) d17_45 rfl (w92 hw) (w93 hw) (w87 hw) (w94 hw) (by decide) pd7 (st := [.ref a]) rfl rfl rfl (W := 1) (Nat.le_of_eq rfl) (by decide) (by decide) (by decide) (by decide) (cells' := 1) (slots' := 20) rfl rfl ?_
  rintro _ _ ⟨rfl, rfl⟩
  show Run _ _ _ _ _ _ _ _ 48 #[.val (.ref a), .val (.ref ac), .val (.int (0 : Int32)), .val (.int (i32 cs.length)), .val .null, .val (.ref b)] [.int (0 : Int32), .ref a]
  refine r_putF C (pc' := 51) d17_48 rfl (w27 hw) Via.refl Fc E (Or.inr ⟨(w8 hw), rfl, rfl⟩) (w5 hw) (ty := .byte) (by decide) rfl rfl ge ?_
  intro h2 W2
  replace Fv := Fv.other W2 (Or.inr (sn0 (Z := Z) hw))
  replace Fc := Fc.same W2
  replace E := E.wr W2
  replace B := B.other W2 (nn (by omega))
  refine r_aloadN C (pc' := 52) d17_51 rfl rfl rfl ?_
  refine r_aload C (pc' := 54) d17_52 rfl rfl rfl ?_
  refine r_putF C (pc' := 57) d17_54 rfl (w20 hw) Via.refl Fv E (Or.inr ⟨(w7 hw), rfl, rfl⟩) (w5 hw) (ty := (.array .byte)) (by decide) rfl rfl ge ?_
  intro h3 W3
  replace Fv := Fv.same W3
  replace Fc := Fc.other W3 (Or.inr (sn1 (Z := Z) hw))
  replace E := E.wr W3
  replace B := B.other W3 (nn (by omega))
  exact r_return C d17_57 (by decide) (by decide) (Nat.zero_le _) (fun _ _ => ⟨rfl, (((Keep.refl h0 [a]).trans K1 all0).wr W2 (Or.inl (by simp))).wr W3 (Or.inl (by simp)), b, k, ⟨E, Fc, Fv, B⟩, gb⟩)
set_option maxRecDepth 65536 in
set_option maxHeartbeats 4000000 in
theorem c_initC (l : Launch) (Z : State) (a0 : Array Value) (hw : ∀ d ∈ tables_1, d.before a0 Z = true) (n0 : Nat) (h0 : Heap) (cc : Int32) (fv : Value) (ss : own_SS Z cc fv) (ol : Old Z n0 h0) (hn : n0 ≤ h0.size) (a ac : Nat) (kc : ClassId) (cs : List Nat) (ge : n0 ≤ a) (E : Exa Z h0 a "java/lang/String") (vo co : Value) (Fv : Fld Z h0 a "java/lang/String" "value" "[B" vo) (Fc : Fld Z h0 a "java/lang/String" "coder" "B" co) (A : AV Z h0 ac kc .char (cs.map vch) (.int 0)) (hcs : ∀ c ∈ cs, c < 256) (hne : cs.length ≠ 0) (hcap : cs.length ≤ 20) :
    Con l [] (⟨"java/lang/String", "<init>", "([C)V"⟩ : MethodName) jdk_42_method_3_code 2 none ({ frames := 3, cells := 1, slots := 20, locals := 52 } : Room) Z #[(.ref a), (.ref ac)] h0 n0 (fun v h => v = none ∧ Keep h0 h [a] ∧ ∃ (b : Nat) (k : ClassId), St Z h a b k cs ∧ b = h0.size) := by
  refine enter (Ls := #[.val (.ref a), .val (.ref ac)]) pn11 (fun m => by first | (simp [entryFrame, mkF, argsToLocals, Value.category]; done) | rfl) ?_
  intro K C
  refine r_aloadN C (pc' := 1) d16_0 rfl rfl rfl ?_
  refine r_aloadN C (pc' := 2) d16_1 rfl rfl rfl ?_
  refine r_iconst C (pc' := 3) (v := 0) d16_2 rfl rfl ?_
  refine r_aloadN C (pc' := 4) d16_3 rfl rfl rfl ?_
  refine r_lengthV C (pc' := 5) (n := cs.length) d16_4 rfl A (own_clen cs) ?_
  refine r_aconst_null C (pc' := 6) d16_5 rfl ?_
  refine r_callI C (pc' := 9) (argsL := [.ref ac, .int (0 : Int32), .int (i32 cs.length), .null]) (c_initCV l Z a0 hw n0 h0 cc fv ss ol hn a ac kc cs ge E vo co Fv Fc A hcs hne hcap) d16_6 rfl (w82 hw) (w83 hw) (w4 hw) (w84 hw) rfl (by decide) pd8 (st := []) rfl rfl rfl (W := 0) (Nat.le_of_eq rfl) (by decide) (by decide) (by decide) (by decide) (cells' := 1) (slots' := 20) rfl rfl ?_
  rintro _ h1 ⟨rfl, K1, r⟩
  show Run _ _ _ _ _ h1 _ _ 9 #[.val (.ref a), .val (.ref ac)] []
  exact r_return C d16_9 (by decide) (by decide) (Nat.zero_le _) (fun _ _ => ⟨rfl, K1, r⟩)
set_option maxRecDepth 65536 in
set_option maxHeartbeats 4000000 in
theorem c_canEncode (l : Launch) (Z : State) (a0 : Array Value) (hw : ∀ d ∈ tables_1, d.before a0 Z = true) (n0 : Nat) (h0 : Heap) (c : Nat) (hb : c < 256) :
    Con l [] (⟨"java/lang/StringLatin1", "canEncode", "(C)Z"⟩ : MethodName) jdk_43_method_3_code 1 (some .boolean) ({ frames := 0, cells := 0, slots := 0, locals := 0 } : Room) Z #[(.int (i32 c))] h0 n0 (fun v h => v = some (.int 1) ∧ h0 = h) := by
  refine enter (Ls := #[.val (.int (i32 c))]) pn12 (fun m => by first | (simp [entryFrame, mkF, argsToLocals, Value.category]; done) | rfl) ?_
  intro K C
  refine r_iloadN C (pc' := 1) d5_0 rfl rfl ?_
  refine r_sipush C (pc' := 4) (v := (255)) d5_1 rfl rfl ?_
  refine r_icmp_gt_f C (pc' := 7) d5_4 rfl (fun q => absurd ((i32_lt (a := 255) (by decide) (by omega)).mp q) (by omega)) ?_
  refine r_iconst C (pc' := 8) (v := 1) d5_7 rfl rfl ?_
  refine r_goto C (pc' := 12) d5_8 (by decide) (by decide) ?_
  exact r_zreturn C d5_12 rfl (by decide) (by decide) (Nat.zero_le _) (fun _ _ => ⟨rfl, rfl⟩)
set_option maxRecDepth 65536 in
set_option maxHeartbeats 4000000 in
theorem c_toBytes (l : Launch) (Z : State) (a0 : Array Value) (hw : ∀ d ∈ tables_1, d.before a0 Z = true) (n0 : Nat) (h0 : Heap) (hn : n0 ≤ h0.size) (c : Nat) :
    Con l [] (⟨"java/lang/StringLatin1", "toBytes", "(C)[B"⟩ : MethodName) jdk_43_method_46_code 1 (some (.array .byte)) ({ frames := 0, cells := 1, slots := 1, locals := 0 } : Room) Z #[(.int (i32 c))] h0 n0 (fun v h => ∃ (b : Nat) (k : ClassId), v = some (.ref b) ∧ b = h0.size ∧ Keep h0 h [] ∧ AV Z h b k .byte (([c].map by8).map Value.int) (.int 0)) := by
  refine enter (Ls := #[.val (.int (i32 c))]) pn13 (fun m => by first | (simp [entryFrame, mkF, argsToLocals, Value.category]; done) | rfl) ?_
  intro K C
  refine r_iconst C (pc' := 1) (v := 1) d6_0 rfl rfl ?_
  refine r_newarrayV C (pc' := 3) (ty := .byte) (m := 1) (cap := 1) d6_1 rfl rfl (w6 hw) rfl (by decide) (by decide) (by decide) (by decide) ?_
  intro h1 b k gb E1 A1
  refine r_dup C (pc' := 4) d6_3 rfl rfl ?_
  refine r_iconst C (pc' := 5) (v := 0) d6_4 rfl rfl ?_
  refine r_iloadN C (pc' := 6) d6_5 rfl rfl ?_
  refine r_i2b C (pc' := 7) d6_6 rfl ?_
  refine r_bastoreV C (pc' := 8) (i := 0) d6_7 rfl A1 rfl (by decide) (fits_nar_byte _) (by omega) ?_
  intro h2 W2 A2
  exact r_areturn C d6_8 rfl rfl (by decide) (by decide) (Nat.zero_le _) (fun _ _ => ⟨b, k, rfl, gb, ((Keep.refl _ _).ext E1).wr W2 (Or.inr (by omega)), by have e := own_bynar c; unfold by8 at e; rw [e] at A2; exact A2⟩)
set_option maxRecDepth 65536 in
set_option maxHeartbeats 4000000 in
theorem c_initBB (l : Launch) (Z : State) (a0 : Array Value) (hw : ∀ d ∈ tables_1, d.before a0 Z = true) (n0 : Nat) (h0 : Heap) (a b : Nat) (k : ClassId) (cs : List Nat) (ge : n0 ≤ a) (ne : b ≠ a) (E : Exa Z h0 a "java/lang/String") (vo co : Value) (Fv : Fld Z h0 a "java/lang/String" "value" "[B" vo) (Fc : Fld Z h0 a "java/lang/String" "coder" "B" co) (A : AV Z h0 b k .byte ((cs.map by8).map Value.int) (.int 0)) :
    Con l [] (⟨"java/lang/String", "<init>", "([BB)V"⟩ : MethodName) jdk_42_method_151_code 3 none ({ frames := 1, cells := 0, slots := 0, locals := 12 } : Room) Z #[(.ref a), (.ref b), (.int (0 : Int32))] h0 n0 (fun v h => v = none ∧ Keep h0 h [a] ∧ St Z h a b k cs) := by
  refine enter (Ls := #[.val (.ref a), .val (.ref b), .val (.int (0 : Int32))]) pn14 (fun m => by first | (simp [entryFrame, mkF, argsToLocals, Value.category]; done) | rfl) ?_
  intro K C
  refine r_aloadN C (pc' := 1) d7_0 rfl rfl rfl ?_
  refine r_initO C (pc' := 4) (W := 0) d7_1 rfl (w43 hw) (w44 hw) (w45 hw) rfl (by decide) (Nat.le_of_eq rfl) (by decide) ?_
  refine r_aloadN C (pc' := 5) d7_4 rfl rfl rfl ?_
  refine r_aloadN C (pc' := 6) d7_5 rfl rfl rfl ?_
  refine r_putF C (pc' := 9) d7_6 rfl (w20 hw) Via.refl Fv E (Or.inr ⟨(w7 hw), rfl, rfl⟩) (w5 hw) (ty := (.array .byte)) (by decide) rfl rfl ge ?_
  intro h1 W1
  replace Fv := Fv.same W1
  replace Fc := Fc.other W1 (Or.inr (sn1 (Z := Z) hw))
  replace E := E.wr W1
  replace A := A.other W1 (nn ne)
  refine r_aloadN C (pc' := 10) d7_9 rfl rfl rfl ?_
  refine r_iloadN C (pc' := 11) d7_10 rfl rfl ?_
  refine r_putF C (pc' := 14) d7_11 rfl (w27 hw) Via.refl Fc E (Or.inr ⟨(w8 hw), rfl, rfl⟩) (w5 hw) (ty := .byte) (by decide) rfl rfl ge ?_
  intro h2 W2
  replace Fv := Fv.other W2 (Or.inr (sn0 (Z := Z) hw))
  replace Fc := Fc.same W2
  replace E := E.wr W2
  replace A := A.other W2 (nn ne)
  exact r_return C d7_14 (by decide) (by decide) (Nat.zero_le _) (fun _ _ => ⟨rfl, ((Keep.refl h0 [a]).wr W1 (Or.inl (by simp))).wr W2 (Or.inl (by simp)), E, Fc, Fv, A⟩)
set_option maxRecDepth 65536 in
set_option maxHeartbeats 4000000 in
theorem c_valueOfC (l : Launch) (Z : State) (a0 : Array Value) (hw : ∀ d ∈ tables_1, d.before a0 Z = true) (n0 : Nat) (h0 : Heap) (cc : Int32) (fv : Value) (ss : own_SS Z cc fv) (ol : Old Z n0 h0) (hn : n0 ≤ h0.size) (c : Nat) (hb : c < 256) :
    Con l [] (⟨"java/lang/String", "valueOf", "(C)Ljava/lang/String;"⟩ : MethodName) jdk_42_method_139_code 1 (some (.object "java/lang/String")) ({ frames := 2, cells := 2, slots := 5, locals := 27 } : Room) Z #[(.int (i32 c))] h0 n0 (fun v h => ∃ (a b : Nat) (k : ClassId), v = some (.ref a) ∧ Keep h0 h [] ∧ St Z h a b k [c] ∧ h0.size ≤ a ∧ h0.size ≤ b) := by
  refine enter (Ls := #[.val (.int (i32 c))]) pn15 (fun m => by first | (simp [entryFrame, mkF, argsToLocals, Value.category]; done) | rfl) ?_
  intro K C
  refine r_getS C (pc' := 3) d4_0 rfl (w26 hw) Via.refl (ss.1.ext ol.2) ?_
  refine r_if_eq_f C (pc' := 6) d4_3 rfl ss.2.1 ?_
  refine r_iloadN C (pc' := 7) d4_6 rfl rfl ?_
  refine r_callS C (pc' := 10) (argsL := [.int (i32 c)]) (c_canEncode l Z a0 hw n0 h0 c hb) d4_7 rfl (w31 hw) (w32 hw) (w33 hw) (w34 hw) (by decide) pd9 (st := []) rfl rfl rfl (W := 0) (Nat.le_of_eq rfl) (by decide) (by decide) (by decide) (by decide) (cells' := 0) (slots' := 0) rfl rfl ?_
  rintro _ _ ⟨rfl, rfl⟩
  show Run _ _ _ _ _ _ _ _ 10 #[.val (.int (i32 c))] [.int (1 : Int32)]
  refine r_if_eq_f C (pc' := 13) d4_10 rfl (by decide) ?_
  refine r_new C (pc' := 16) d4_13 rfl (w35 hw) (w5 hw) (w4 hw) (by decide) (by decide) ?_
  intro h1 a ga E1 E D1
  have Fv : Fld Z h1 a "java/lang/String" "value" "[B" (.null) := D1 (Or.inr (w7 hw)) (ty := (.array .byte)) (by decide)
  have Fc : Fld Z h1 a "java/lang/String" "coder" "B" (.int 0) := D1 (Or.inr (w8 hw)) (ty := .byte) (by decide)
  have x_h1 := E1.1
  refine r_dup C (pc' := 17) d4_16 rfl rfl ?_
  refine r_iloadN C (pc' := 18) d4_17 rfl rfl ?_
  refine r_callS C (pc' := 21) (argsL := [.int (i32 c)]) (c_toBytes l Z a0 hw n0 h1 (by omega) c) d4_18 rfl (w36 hw) (w37 hw) (w33 hw) (w38 hw) (by decide) pd10 (st := [.ref a, .ref a]) rfl rfl rfl (W := 2) (Nat.le_of_eq rfl) (by decide) (by decide) (by decide) (by decide) (cells' := 2) (slots' := 5) rfl rfl ?_
  rintro _ h2 ⟨b, k, rfl, gb, K2, A2⟩
  show Run _ _ _ _ _ h2 _ _ 21 #[.val (.int (i32 c))] [.ref b, .ref a, .ref a]
  refine r_iconst C (pc' := 22) (v := 0) d4_21 rfl rfl ?_
  refine r_callI C (pc' := 25) (argsL := [.ref b, .int (0 : Int32)]) (c_initBB l Z a0 hw n0 h2 a b k [c] (by omega) (by have := exaLt E; omega) (E.keep K2) _ _ (Fv.keep K2 nin0) (Fc.keep K2 nin0) A2) d4_22 rfl (w39 hw) (w40 hw) (w4 hw) (w42 hw) rfl (by decide) pd11 (st := [.ref a]) rfl rfl rfl (W := 1) (Nat.le_of_eq rfl) (by decide) (by decide) (by decide) (by decide) (cells' := 2) (slots' := 5) rfl rfl ?_
  rintro _ h3 ⟨rfl, K3, S⟩
  show Run _ _ _ _ _ h3 _ _ 25 #[.val (.int (i32 c))] [.ref a]
  exact r_areturn C d4_25 rfl rfl (by decide) (by decide) (Nat.zero_le _) (fun _ _ => ⟨a, b, k, rfl, (((Keep.refl h0 []).ext E1).trans K2 all0).trans K3 (allS (Or.inr (by omega)) all0), S, by omega, by omega⟩)
set_option maxRecDepth 65536 in
set_option maxHeartbeats 4000000 in
theorem c_parse (l : Launch) (Z : State) (a0 : Array Value) (hw : ∀ d ∈ tables_1, d.before a0 Z = true) (n0 : Nat) (h0 : Heap) (cc : Int32) (fv : Value) (ss : own_SS Z cc fv) (ol : Old Z n0 h0) (a b : Nat) (k : ClassId) (cs : List Nat) (S : St Z h0 a b k cs) (hcs : ∀ c ∈ cs, 48 ≤ c ∧ c ≤ 57) :
    Con l [] (⟨"com/example/wrange/wrange/Fragment", "parseNumber", "(Ljava/lang/String;)J"⟩ : MethodName) prog_4_method_17_code 5 (some .long) ({ frames := 4, cells := 0, slots := 0, locals := 53 } : Room) Z #[(.ref a)] h0 n0 (fun v h => v = some (.long (i64 (own_pn cs 0))) ∧ h0 = h) := by
  refine enter (Ls := #[.val (.ref a), .unset, .unset, .unset, .unset]) pn16 (fun m => by first | (simp [entryFrame, mkF, argsToLocals, Value.category]; done) | rfl) ?_
  intro K C
  have hn : cs.length < 2147483648 := by have := S.2.2.2.2; rwa [own_blen] at this
  have loop : ∀ (m i u : Nat) (L4 : Slot), cs.length - i = m → i ≤ cs.length → u ≤ 9223372036854775807 → own_pn (cs.drop i) u = own_pn cs 0 → (L4 = .unset ∨ ∃ z, L4 = .val (.int z)) → Run l ({ frames := 4, cells := 0, slots := 0, locals := 53 } : Room) n0 (fun v h _ => v = some (.long (i64 (own_pn cs 0))) ∧ h0 = h) K h0 0 0 4 #[.val (.ref a), .val (.long (i64 u)), .second, .val (.int (i32 i)), L4] [] := by
    intro m
    induction m with
    | zero =>
      intro i u L4 hm hi hu eu hL
      obtain rfl : i = cs.length := by omega
      refine r_iloadN C (pc' := 5) d1_4 rfl rfl ?_
      refine r_aloadN C (pc' := 6) d1_5 rfl rfl rfl ?_
      refine r_callV C (pc' := 9) (argsL := []) (c_length l Z a0 hw n0 h0 cc fv ss ol a b k cs S) S.1 d1_6 rfl (w15 hw) (w16 hw) (nfSel (z := ({ cls := "java/lang/String", name := "length", desc := "()I" } : Jvm.MethodName)) (w18 hw)) (w18 hw) (w17 hw) (w4 hw) (w19 hw) (by decide) pd12 (st := [.int (i32 cs.length)]) rfl rfl rfl (W := 1) (Nat.le_of_eq rfl) (by decide) (by decide) (by decide) (by decide) (cells' := 0) (slots' := 0) rfl rfl ?_
      rintro _ _ ⟨rfl, rfl⟩
      show Run _ _ _ _ _ _ _ _ 9 #[.val (.ref a), .val (.long (i64 u)), .second, .val (.int (i32 cs.length)), L4] [.int (i32 cs.length), .int (i32 cs.length)]
      refine r_icmp_ge_t C (pc' := 58) d1_9 (by decide) (by decide) (fun q => absurd ((i32_lt hn hn).mp q) (Nat.lt_irrefl _)) ?_
      refine r_lloadN C (pc' := 59) d1_58 rfl rfl ?_
      exact r_lreturn C d1_59 (by decide) (by decide) (Nat.zero_le _) (fun _ _ => ⟨by rw [List.drop_length, own_pn] at eu; rw [eu], rfl⟩)
    | succ m ih =>
      intro i u L4 hm hi hu eu hL
      have hlt : i < cs.length := by omega
      obtain ⟨c, hc⟩ : ∃ c, cs[i]? = some c := ⟨_, List.getElem?_eq_getElem hlt⟩
      have hb := hcs c (List.mem_of_getElem? hc)
      rw [own_drop1 hc, own_pn] at eu
      refine r_iloadN C (pc' := 5) d1_4 rfl rfl ?_
      refine r_aloadN C (pc' := 6) d1_5 rfl rfl rfl ?_
      refine r_callV C (pc' := 9) (argsL := []) (c_length l Z a0 hw n0 h0 cc fv ss ol a b k cs S) S.1 d1_6 rfl (w15 hw) (w16 hw) (nfSel (z := ({ cls := "java/lang/String", name := "length", desc := "()I" } : Jvm.MethodName)) (w18 hw)) (w18 hw) (w17 hw) (w4 hw) (w19 hw) (by decide) pd12 (st := [.int (i32 i)]) rfl rfl rfl (W := 1) (Nat.le_of_eq rfl) (by decide) (by decide) (by decide) (by decide) (cells' := 0) (slots' := 0) rfl rfl ?_
      rintro _ _ ⟨rfl, rfl⟩
      show Run _ _ _ _ _ _ _ _ 9 #[.val (.ref a), .val (.long (i64 u)), .second, .val (.int (i32 i)), L4] [.int (i32 cs.length), .int (i32 i)]
      refine r_icmp_ge_f C (pc' := 12) d1_9 rfl ((i32_lt (by omega) hn).mpr hlt) ?_
      refine r_aloadN C (pc' := 13) d1_12 rfl rfl rfl ?_
      refine r_iloadN C (pc' := 14) d1_13 rfl rfl ?_
      refine r_callV C (pc' := 17) (argsL := [.int (i32 i)]) (c_charAt l Z a0 hw n0 _ cc fv ss ol a b k cs S i c hc (by omega)) S.1 d1_14 rfl (w46 hw) (w47 hw) (nfSel (z := ({ cls := "java/lang/String", name := "charAt", desc := "(I)C" } : Jvm.MethodName)) (w49 hw)) (w49 hw) (w48 hw) (w4 hw) (w50 hw) (by decide) pd13 (st := []) rfl rfl rfl (W := 0) (Nat.le_of_eq rfl) (by decide) (by decide) (by decide) (by decide) (cells' := 0) (slots' := 0) rfl rfl ?_
      rintro _ _ ⟨rfl, rfl⟩
      show Run _ _ _ _ _ _ _ _ 17 #[.val (.ref a), .val (.long (i64 u)), .second, .val (.int (i32 i)), L4] [.int (i32 c)]
      refine r_bipush C (pc' := 19) (v := (48)) d1_17 rfl rfl ?_
      refine r_isub C (pc' := 20) d1_19 rfl ?_
      rw [show i32 c - (48 : Int32) = i32 (c - 48) from i32_sub (b := 48) (by omega)]
      refine r_istore C (pc' := 22) (Ls' := #[.val (.ref a), .val (.long (i64 u)), .second, .val (.int (i32 i)), .val (.int (i32 (c - 48)))]) d1_20 rfl (by rcases hL with rfl | ⟨z, rfl⟩ <;> rfl) ?_
      refine r_lloadN C (pc' := 23) d1_22 rfl rfl ?_
      refine r_ldc2J C (pc' := 26) d1_23 rfl (w67 hw) ?_
      refine r_iload C (pc' := 28) d1_26 rfl rfl ?_
      refine r_i2l C (pc' := 29) d1_28 rfl ?_
      refine r_lsub C (pc' := 30) d1_29 rfl ?_
      refine r_ldc2J C (pc' := 33) d1_30 rfl (w68 hw) ?_
      refine r_ldiv C (pc' := 34) d1_33 rfl (by decide) ?_
      rw [i64_of32 (by omega), show (9223372036854775807 : Int64) - i64 (c - 48) = i64 (9223372036854775807 - (c - 48)) from i64_sub (a := 9223372036854775807) (by omega), show i64 (9223372036854775807 - (c - 48)) / (10 : Int64) = i64 ((9223372036854775807 - (c - 48)) / 10) from i64_div (b := 10) (by omega) (by decide)]
      refine r_lcmp_le C (pt := 42) (pc' := 38) d1_34 d1_35 (by decide) (by decide) rfl ?_ ?_
      · intro q
        have q' : ¬ (9223372036854775807 - (c - 48)) / 10 < u := fun x => q ((i64_lt (by omega) (by omega)).mpr x)
        rw [if_neg q'] at eu
        refine r_lloadN C (pc' := 43) d1_42 rfl rfl ?_
        refine r_ldc2J C (pc' := 46) d1_43 rfl (w68 hw) ?_
        refine r_lmul C (pc' := 47) d1_46 rfl ?_
        refine r_iload C (pc' := 49) d1_47 rfl rfl ?_
        refine r_i2l C (pc' := 50) d1_49 rfl ?_
        refine r_ladd C (pc' := 51) d1_50 rfl ?_
        refine r_lstoreN C (pc' := 52) (Ls' := #[.val (.ref a), .val (.long (((i64 u) * (10 : Int64)) + ((i32 (c - 48)).toInt64))), .second, .val (.int (i32 i)), .val (.int (i32 (c - 48)))]) d1_51 rfl rfl ?_
        refine r_iinc C (pc' := 55) (v := (1)) (Ls' := #[.val (.ref a), .val (.long (((i64 u) * (10 : Int64)) + ((i32 (c - 48)).toInt64))), .second, .val (.int ((i32 i) + (1 : Int32))), .val (.int (i32 (c - 48)))]) d1_52 rfl rfl rfl rfl ?_
        refine r_goto C (pc' := 4) d1_55 (by decide) (by decide) ?_
        rw [i64_of32 (by omega), show i64 u * (10 : Int64) = i64 (u * 10) from i64_mul u 10, i64_add, show i32 i + (1 : Int32) = i32 (i + 1) from i32_add i 1]
        exact ih (i + 1) (u * 10 + (c - 48)) _ (by omega) hlt (by omega) eu (Or.inr ⟨_, rfl⟩)
      · intro q
        have q' : (9223372036854775807 - (c - 48)) / 10 < u := (i64_lt (by omega) (by omega)).mp q
        rw [if_pos q'] at eu
        refine r_ldc2J C (pc' := 41) d1_38 rfl (w67 hw) ?_
        exact r_lreturn C d1_41 (by decide) (by decide) (Nat.zero_le _) (fun _ _ => ⟨by rw [← eu]; rfl, rfl⟩)
  refine r_lconst C (pc' := 1) (v := 0) d1_0 rfl rfl ?_
  refine r_lstoreN C (pc' := 2) (Ls' := #[.val (.ref a), .val (.long (0 : Int64)), .second, .unset, .unset]) d1_1 rfl rfl ?_
  refine r_iconst C (pc' := 3) (v := 0) d1_2 rfl rfl ?_
  refine r_istoreN C (pc' := 4) (Ls' := #[.val (.ref a), .val (.long (0 : Int64)), .second, .val (.int (0 : Int32)), .unset]) d1_3 rfl rfl ?_
  exact loop _ 0 0 _ rfl (Nat.zero_le _) (by decide) rfl (Or.inl rfl)
set_option maxRecDepth 65536 in
set_option maxHeartbeats 4000000 in
theorem c_digit (l : Launch) (Z : State) (a0 : Array Value) (hw : ∀ d ∈ tables_1, d.before a0 Z = true) (n0 : Nat) (h0 : Heap) (r : Nat) (hr : r < 9223372036854775808) :
    Con l [] (⟨"com/example/wrange/wrange/FragmentParseNumberPinLaw", "digit", "(J)C"⟩ : MethodName) method_3_code 2 (some .char) ({ frames := 0, cells := 0, slots := 0, locals := 0 } : Room) Z #[(.long (i64 r))] h0 n0 (fun v h => v = some (.int (i32 (48 + r % 10))) ∧ h0 = h) := by
  refine enter (Ls := #[.val (.long (i64 r)), .second]) pn17 (fun m => by first | (simp [entryFrame, mkF, argsToLocals, Value.category]; done) | rfl) ?_
  intro K C
  refine r_bipush C (pc' := 2) (v := (48)) d15_0 rfl rfl ?_
  refine r_lloadN C (pc' := 3) d15_2 rfl rfl ?_
  refine r_ldc2J C (pc' := 6) d15_3 rfl (w77 hw) ?_
  refine r_lrem C (pc' := 7) d15_6 rfl (by decide) ?_
  refine r_l2i C (pc' := 8) d15_7 rfl ?_
  refine r_iadd C (pc' := 9) d15_8 rfl ?_
  refine r_i2c C (pc' := 10) d15_9 rfl ?_
  rw [show i64 r - i64 r / (10 : Int64) * (10 : Int64) = i64 (r % 10) from i64_rem (b := 10) hr (by decide), i32_of64, show (48 : Int32) + i32 (r % 10) = i32 (48 + r % 10) from i32_add 48 _, own_ch (by omega)]
  exact r_creturn C d15_10 (own_narF ⟨48 + r % 10, by omega⟩) (by decide) (by decide) (Nat.zero_le _) (fun _ _ => ⟨rfl, rfl⟩)
set_option maxRecDepth 65536 in
set_option maxHeartbeats 4000000 in
theorem c_fill (l : Launch) (Z : State) (a0 : Array Value) (hw : ∀ d ∈ tables_1, d.before a0 Z = true) (n0 : Nat) (h0 : Heap) (ar : Nat) (k : ClassId) (x0 : Value) (a : Nat) (ha : a < 1000000000000000000) (ge : n0 ≤ ar) (A : AV Z h0 ar k .char (x0 :: List.replicate 19 (.int 0)) (.int 0)) :
    Con l [] (⟨"com/example/wrange/wrange/FragmentParseNumberPinLaw", "fill", "([CJ)V"⟩ : MethodName) method_4_code 5 none ({ frames := 1, cells := 0, slots := 0, locals := 15 } : Room) Z #[(.ref ar), (.long (i64 a))] h0 n0 (fun v h => v = none ∧ Keep h0 h [ar] ∧ AV Z h ar k .char ([x0, vch (48 + (a / 10 / 10 / 10 / 10 / 10 / 10 / 10 / 10 / 10 / 10 / 10 / 10 / 10 / 10 / 10 / 10 / 10) % 10), vch (48 + (a / 10 / 10 / 10 / 10 / 10 / 10 / 10 / 10 / 10 / 10 / 10 / 10 / 10 / 10 / 10 / 10) % 10), vch (48 + (a / 10 / 10 / 10 / 10 / 10 / 10 / 10 / 10 / 10 / 10 / 10 / 10 / 10 / 10 / 10) % 10), vch (48 + (a / 10 / 10 / 10 / 10 / 10 / 10 / 10 / 10 / 10 / 10 / 10 / 10 / 10 / 10) % 10), vch (48 + (a / 10 / 10 / 10 / 10 / 10 / 10 / 10 / 10 / 10 / 10 / 10 / 10 / 10) % 10), vch (48 + (a / 10 / 10 / 10 / 10 / 10 / 10 / 10 / 10 / 10 / 10 / 10 / 10) % 10), vch (48 + (a / 10 / 10 / 10 / 10 / 10 / 10 / 10 / 10 / 10 / 10 / 10) % 10), vch (48 + (a / 10 / 10 / 10 / 10 / 10 / 10 / 10 / 10 / 10 / 10) % 10), vch (48 + (a / 10 / 10 / 10 / 10 / 10 / 10 / 10 / 10 / 10) % 10), vch (48 + (a / 10 / 10 / 10 / 10 / 10 / 10 / 10 / 10) % 10), vch (48 + (a / 10 / 10 / 10 / 10 / 10 / 10 / 10) % 10), vch (48 + (a / 10 / 10 / 10 / 10 / 10 / 10) % 10), vch (48 + (a / 10 / 10 / 10 / 10 / 10) % 10), vch (48 + (a / 10 / 10 / 10 / 10) % 10), vch (48 + (a / 10 / 10 / 10) % 10), vch (48 + (a / 10 / 10) % 10), vch (48 + (a / 10) % 10), vch (48 + (a) % 10), .int 0] : List Value) (.int 0)) := by
  refine enter (Ls := #[.val (.ref ar), .val (.long (i64 a)), .second, .unset, .unset]) pn18 (fun m => by first | (simp [entryFrame, mkF, argsToLocals, Value.category]; done) | rfl) ?_
  intro K C
  have Kp := Keep.refl h0 [ar]
  refine r_lloadN C (pc' := 1) d14_0 rfl rfl ?_
  refine r_lstoreN C (pc' := 2) (Ls' := #[.val (.ref ar), .val (.long (i64 a)), .second, .val (.long (i64 a)), .second]) d14_1 rfl rfl ?_
  refine r_aloadN C (pc' := 3) d14_2 rfl rfl rfl ?_
  refine r_bipush C (pc' := 5) (v := (18)) d14_3 rfl rfl ?_
  refine r_lloadN C (pc' := 6) d14_5 rfl rfl ?_
  refine r_callS C (pc' := 9) (argsL := [.long (i64 a)]) (c_digit l Z a0 hw n0 h0 (a) (by omega)) d14_6 rfl (w74 hw) (w75 hw) (w72 hw) (w76 hw) (by decide) pd14 (st := [.int (18 : Int32), .ref ar]) rfl rfl rfl (W := 2) (Nat.le_of_eq rfl) (by decide) (by decide) (by decide) (by decide) (cells' := 0) (slots' := 0) rfl rfl ?_
  rintro _ _ ⟨rfl, rfl⟩
  show Run _ _ _ _ _ _ _ _ 9 #[.val (.ref ar), .val (.long (i64 a)), .second, .val (.long (i64 a)), .second] [.int (i32 (48 + (a) % 10)), .int (18 : Int32), .ref ar]
  refine r_castoreV C (pc' := 10) (i := 18) d14_9 rfl A rfl (by simp) (fits_nar_char _) ge ?_
  intro h1 W1 A1
  rw [own_chn (by omega)] at A1
  replace A := A1
  replace Kp := Kp.wr W1 (Or.inl (by simp))
  refine r_lloadN C (pc' := 11) d14_10 rfl rfl ?_
  refine r_ldc2J C (pc' := 14) d14_11 rfl (w77 hw) ?_
  refine r_ldiv C (pc' := 15) d14_14 rfl (by decide) ?_
  rw [show i64 (a) / (10 : Int64) = i64 (a / 10) from i64_div (b := 10) (by omega) (by decide)]
  refine r_lstoreN C (pc' := 16) (Ls' := #[.val (.ref ar), .val (.long (i64 a)), .second, .val (.long (i64 (a / 10))), .second]) d14_15 rfl rfl ?_
  refine r_aloadN C (pc' := 17) d14_16 rfl rfl rfl ?_
  refine r_bipush C (pc' := 19) (v := (17)) d14_17 rfl rfl ?_
  refine r_lloadN C (pc' := 20) d14_19 rfl rfl ?_
  refine r_callS C (pc' := 23) (argsL := [.long (i64 (a / 10))]) (c_digit l Z a0 hw n0 h1 (a / 10) (by omega)) d14_20 rfl (w74 hw) (w75 hw) (w72 hw) (w76 hw) (by decide) pd14 (st := [.int (17 : Int32), .ref ar]) rfl rfl rfl (W := 2) (Nat.le_of_eq rfl) (by decide) (by decide) (by decide) (by decide) (cells' := 0) (slots' := 0) rfl rfl ?_
  rintro _ _ ⟨rfl, rfl⟩
  show Run _ _ _ _ _ _ _ _ 23 #[.val (.ref ar), .val (.long (i64 a)), .second, .val (.long (i64 (a / 10))), .second] [.int (i32 (48 + (a / 10) % 10)), .int (17 : Int32), .ref ar]
  refine r_castoreV C (pc' := 24) (i := 17) d14_23 rfl A rfl (by simp) (fits_nar_char _) ge ?_
  intro h2 W2 A2
  rw [own_chn (by omega)] at A2
  replace A := A2
  replace Kp := Kp.wr W2 (Or.inl (by simp))
  refine r_lloadN C (pc' := 25) d14_24 rfl rfl ?_
  refine r_ldc2J C (pc' := 28) d14_25 rfl (w77 hw) ?_
  refine r_ldiv C (pc' := 29) d14_28 rfl (by decide) ?_
  rw [show i64 (a / 10) / (10 : Int64) = i64 (a / 10 / 10) from i64_div (b := 10) (by omega) (by decide)]
  refine r_lstoreN C (pc' := 30) (Ls' := #[.val (.ref ar), .val (.long (i64 a)), .second, .val (.long (i64 (a / 10 / 10))), .second]) d14_29 rfl rfl ?_
  refine r_aloadN C (pc' := 31) d14_30 rfl rfl rfl ?_
  refine r_bipush C (pc' := 33) (v := (16)) d14_31 rfl rfl ?_
  refine r_lloadN C (pc' := 34) d14_33 rfl rfl ?_
  refine r_callS C (pc' := 37) (argsL := [.long (i64 (a / 10 / 10))]) (c_digit l Z a0 hw n0 h2 (a / 10 / 10) (by omega)) d14_34 rfl (w74 hw) (w75 hw) (w72 hw) (w76 hw) (by decide) pd14 (st := [.int (16 : Int32), .ref ar]) rfl rfl rfl (W := 2) (Nat.le_of_eq rfl) (by decide) (by decide) (by decide) (by decide) (cells' := 0) (slots' := 0) rfl rfl ?_
  rintro _ _ ⟨rfl, rfl⟩
  show Run _ _ _ _ _ _ _ _ 37 #[.val (.ref ar), .val (.long (i64 a)), .second, .val (.long (i64 (a / 10 / 10))), .second] [.int (i32 (48 + (a / 10 / 10) % 10)), .int (16 : Int32), .ref ar]
  refine r_castoreV C (pc' := 38) (i := 16) d14_37 rfl A rfl (by simp) (fits_nar_char _) ge ?_
  intro h3 W3 A3
  rw [own_chn (by omega)] at A3
  replace A := A3
  replace Kp := Kp.wr W3 (Or.inl (by simp))
  refine r_lloadN C (pc' := 39) d14_38 rfl rfl ?_
  refine r_ldc2J C (pc' := 42) d14_39 rfl (w77 hw) ?_
  refine r_ldiv C (pc' := 43) d14_42 rfl (by decide) ?_
  rw [show i64 (a / 10 / 10) / (10 : Int64) = i64 (a / 10 / 10 / 10) from i64_div (b := 10) (by omega) (by decide)]
  refine r_lstoreN C (pc' := 44) (Ls' := #[.val (.ref ar), .val (.long (i64 a)), .second, .val (.long (i64 (a / 10 / 10 / 10))), .second]) d14_43 rfl rfl ?_
  refine r_aloadN C (pc' := 45) d14_44 rfl rfl rfl ?_
  refine r_bipush C (pc' := 47) (v := (15)) d14_45 rfl rfl ?_
  refine r_lloadN C (pc' := 48) d14_47 rfl rfl ?_
  refine r_callS C (pc' := 51) (argsL := [.long (i64 (a / 10 / 10 / 10))]) (c_digit l Z a0 hw n0 h3 (a / 10 / 10 / 10) (by omega)) d14_48 rfl (w74 hw) (w75 hw) (w72 hw) (w76 hw) (by decide) pd14 (st := [.int (15 : Int32), .ref ar]) rfl rfl rfl (W := 2) (Nat.le_of_eq rfl) (by decide) (by decide) (by decide) (by decide) (cells' := 0) (slots' := 0) rfl rfl ?_
  rintro _ _ ⟨rfl, rfl⟩
  show Run _ _ _ _ _ _ _ _ 51 #[.val (.ref ar), .val (.long (i64 a)), .second, .val (.long (i64 (a / 10 / 10 / 10))), .second] [.int (i32 (48 + (a / 10 / 10 / 10) % 10)), .int (15 : Int32), .ref ar]
  refine r_castoreV C (pc' := 52) (i := 15) d14_51 rfl A rfl (by simp) (fits_nar_char _) ge ?_
  intro h4 W4 A4
  rw [own_chn (by omega)] at A4
  replace A := A4
  replace Kp := Kp.wr W4 (Or.inl (by simp))
  refine r_lloadN C (pc' := 53) d14_52 rfl rfl ?_
  refine r_ldc2J C (pc' := 56) d14_53 rfl (w77 hw) ?_
  refine r_ldiv C (pc' := 57) d14_56 rfl (by decide) ?_
  rw [show i64 (a / 10 / 10 / 10) / (10 : Int64) = i64 (a / 10 / 10 / 10 / 10) from i64_div (b := 10) (by omega) (by decide)]
  refine r_lstoreN C (pc' := 58) (Ls' := #[.val (.ref ar), .val (.long (i64 a)), .second, .val (.long (i64 (a / 10 / 10 / 10 / 10))), .second]) d14_57 rfl rfl ?_
  refine r_aloadN C (pc' := 59) d14_58 rfl rfl rfl ?_
  refine r_bipush C (pc' := 61) (v := (14)) d14_59 rfl rfl ?_
  refine r_lloadN C (pc' := 62) d14_61 rfl rfl ?_
  refine r_callS C (pc' := 65) (argsL := [.long (i64 (a / 10 / 10 / 10 / 10))]) (c_digit l Z a0 hw n0 h4 (a / 10 / 10 / 10 / 10) (by omega)) d14_62 rfl (w74 hw) (w75 hw) (w72 hw) (w76 hw) (by decide) pd14 (st := [.int (14 : Int32), .ref ar]) rfl rfl rfl (W := 2) (Nat.le_of_eq rfl) (by decide) (by decide) (by decide) (by decide) (cells' := 0) (slots' := 0) rfl rfl ?_
  rintro _ _ ⟨rfl, rfl⟩
  show Run _ _ _ _ _ _ _ _ 65 #[.val (.ref ar), .val (.long (i64 a)), .second, .val (.long (i64 (a / 10 / 10 / 10 / 10))), .second] [.int (i32 (48 + (a / 10 / 10 / 10 / 10) % 10)), .int (14 : Int32), .ref ar]
  refine r_castoreV C (pc' := 66) (i := 14) d14_65 rfl A rfl (by simp) (fits_nar_char _) ge ?_
  intro h5 W5 A5
  rw [own_chn (by omega)] at A5
  replace A := A5
  replace Kp := Kp.wr W5 (Or.inl (by simp))
  refine r_lloadN C (pc' := 67) d14_66 rfl rfl ?_
  refine r_ldc2J C (pc' := 70) d14_67 rfl (w77 hw) ?_
  refine r_ldiv C (pc' := 71) d14_70 rfl (by decide) ?_
  rw [show i64 (a / 10 / 10 / 10 / 10) / (10 : Int64) = i64 (a / 10 / 10 / 10 / 10 / 10) from i64_div (b := 10) (by omega) (by decide)]
  refine r_lstoreN C (pc' := 72) (Ls' := #[.val (.ref ar), .val (.long (i64 a)), .second, .val (.long (i64 (a / 10 / 10 / 10 / 10 / 10))), .second]) d14_71 rfl rfl ?_
  refine r_aloadN C (pc' := 73) d14_72 rfl rfl rfl ?_
  refine r_bipush C (pc' := 75) (v := (13)) d14_73 rfl rfl ?_
  refine r_lloadN C (pc' := 76) d14_75 rfl rfl ?_
  refine r_callS C (pc' := 79) (argsL := [.long (i64 (a / 10 / 10 / 10 / 10 / 10))]) (c_digit l Z a0 hw n0 h5 (a / 10 / 10 / 10 / 10 / 10) (by omega)) d14_76 rfl (w74 hw) (w75 hw) (w72 hw) (w76 hw) (by decide) pd14 (st := [.int (13 : Int32), .ref ar]) rfl rfl rfl (W := 2) (Nat.le_of_eq rfl) (by decide) (by decide) (by decide) (by decide) (cells' := 0) (slots' := 0) rfl rfl ?_
  rintro _ _ ⟨rfl, rfl⟩
  show Run _ _ _ _ _ _ _ _ 79 #[.val (.ref ar), .val (.long (i64 a)), .second, .val (.long (i64 (a / 10 / 10 / 10 / 10 / 10))), .second] [.int (i32 (48 + (a / 10 / 10 / 10 / 10 / 10) % 10)), .int (13 : Int32), .ref ar]
  refine r_castoreV C (pc' := 80) (i := 13) d14_79 rfl A rfl (by simp) (fits_nar_char _) ge ?_
  intro h6 W6 A6
  rw [own_chn (by omega)] at A6
  replace A := A6
  replace Kp := Kp.wr W6 (Or.inl (by simp))
  refine r_lloadN C (pc' := 81) d14_80 rfl rfl ?_
  refine r_ldc2J C (pc' := 84) d14_81 rfl (w77 hw) ?_
  refine r_ldiv C (pc' := 85) d14_84 rfl (by decide) ?_
  rw [show i64 (a / 10 / 10 / 10 / 10 / 10) / (10 : Int64) = i64 (a / 10 / 10 / 10 / 10 / 10 / 10) from i64_div (b := 10) (by omega) (by decide)]
  refine r_lstoreN C (pc' := 86) (Ls' := #[.val (.ref ar), .val (.long (i64 a)), .second, .val (.long (i64 (a / 10 / 10 / 10 / 10 / 10 / 10))), .second]) d14_85 rfl rfl ?_
  refine r_aloadN C (pc' := 87) d14_86 rfl rfl rfl ?_
  refine r_bipush C (pc' := 89) (v := (12)) d14_87 rfl rfl ?_
  refine r_lloadN C (pc' := 90) d14_89 rfl rfl ?_
  refine r_callS C (pc' := 93) (argsL := [.long (i64 (a / 10 / 10 / 10 / 10 / 10 / 10))]) (c_digit l Z a0 hw n0 h6 (a / 10 / 10 / 10 / 10 / 10 / 10) (by omega)) d14_90 rfl (w74 hw) (w75 hw) (w72 hw) (w76 hw) (by decide) pd14 (st := [.int (12 : Int32), .ref ar]) rfl rfl rfl (W := 2) (Nat.le_of_eq rfl) (by decide) (by decide) (by decide) (by decide) (cells' := 0) (slots' := 0) rfl rfl ?_
  rintro _ _ ⟨rfl, rfl⟩
  show Run _ _ _ _ _ _ _ _ 93 #[.val (.ref ar), .val (.long (i64 a)), .second, .val (.long (i64 (a / 10 / 10 / 10 / 10 / 10 / 10))), .second] [.int (i32 (48 + (a / 10 / 10 / 10 / 10 / 10 / 10) % 10)), .int (12 : Int32), .ref ar]
  refine r_castoreV C (pc' := 94) (i := 12) d14_93 rfl A rfl (by simp) (fits_nar_char _) ge ?_
  intro h7 W7 A7
  rw [own_chn (by omega)] at A7
  replace A := A7
  replace Kp := Kp.wr W7 (Or.inl (by simp))
  refine r_lloadN C (pc' := 95) d14_94 rfl rfl ?_
  refine r_ldc2J C (pc' := 98) d14_95 rfl (w77 hw) ?_
  refine r_ldiv C (pc' := 99) d14_98 rfl (by decide) ?_
  rw [show i64 (a / 10 / 10 / 10 / 10 / 10 / 10) / (10 : Int64) = i64 (a / 10 / 10 / 10 / 10 / 10 / 10 / 10) from i64_div (b := 10) (by omega) (by decide)]
  refine r_lstoreN C (pc' := 100) (Ls' := #[.val (.ref ar), .val (.long (i64 a)), .second, .val (.long (i64 (a / 10 / 10 / 10 / 10 / 10 / 10 / 10))), .second]) d14_99 rfl rfl ?_
  refine r_aloadN C (pc' := 101) d14_100 rfl rfl rfl ?_
  refine r_bipush C (pc' := 103) (v := (11)) d14_101 rfl rfl ?_
  refine r_lloadN C (pc' := 104) d14_103 rfl rfl ?_
  refine r_callS C (pc' := 107) (argsL := [.long (i64 (a / 10 / 10 / 10 / 10 / 10 / 10 / 10))]) (c_digit l Z a0 hw n0 h7 (a / 10 / 10 / 10 / 10 / 10 / 10 / 10) (by omega)) d14_104 rfl (w74 hw) (w75 hw) (w72 hw) (w76 hw) (by decide) pd14 (st := [.int (11 : Int32), .ref ar]) rfl rfl rfl (W := 2) (Nat.le_of_eq rfl) (by decide) (by decide) (by decide) (by decide) (cells' := 0) (slots' := 0) rfl rfl ?_
  rintro _ _ ⟨rfl, rfl⟩
  show Run _ _ _ _ _ _ _ _ 107 #[.val (.ref ar), .val (.long (i64 a)), .second, .val (.long (i64 (a / 10 / 10 / 10 / 10 / 10 / 10 / 10))), .second] [.int (i32 (48 + (a / 10 / 10 / 10 / 10 / 10 / 10 / 10) % 10)), .int (11 : Int32), .ref ar]
  refine r_castoreV C (pc' := 108) (i := 11) d14_107 rfl A rfl (by simp) (fits_nar_char _) ge ?_
  intro h8 W8 A8
  rw [own_chn (by omega)] at A8
  replace A := A8
  replace Kp := Kp.wr W8 (Or.inl (by simp))
  refine r_lloadN C (pc' := 109) d14_108 rfl rfl ?_
  refine r_ldc2J C (pc' := 112) d14_109 rfl (w77 hw) ?_
  refine r_ldiv C (pc' := 113) d14_112 rfl (by decide) ?_
  rw [show i64 (a / 10 / 10 / 10 / 10 / 10 / 10 / 10) / (10 : Int64) = i64 (a / 10 / 10 / 10 / 10 / 10 / 10 / 10 / 10) from i64_div (b := 10) (by omega) (by decide)]
  refine r_lstoreN C (pc' := 114) (Ls' := #[.val (.ref ar), .val (.long (i64 a)), .second, .val (.long (i64 (a / 10 / 10 / 10 / 10 / 10 / 10 / 10 / 10))), .second]) d14_113 rfl rfl ?_
  refine r_aloadN C (pc' := 115) d14_114 rfl rfl rfl ?_
  refine r_bipush C (pc' := 117) (v := (10)) d14_115 rfl rfl ?_
  refine r_lloadN C (pc' := 118) d14_117 rfl rfl ?_
  refine r_callS C (pc' := 121) (argsL := [.long (i64 (a / 10 / 10 / 10 / 10 / 10 / 10 / 10 / 10))]) (c_digit l Z a0 hw n0 h8 (a / 10 / 10 / 10 / 10 / 10 / 10 / 10 / 10) (by omega)) d14_118 rfl (w74 hw) (w75 hw) (w72 hw) (w76 hw) (by decide) pd14 (st := [.int (10 : Int32), .ref ar]) rfl rfl rfl (W := 2) (Nat.le_of_eq rfl) (by decide) (by decide) (by decide) (by decide) (cells' := 0) (slots' := 0) rfl rfl ?_
  rintro _ _ ⟨rfl, rfl⟩
  show Run _ _ _ _ _ _ _ _ 121 #[.val (.ref ar), .val (.long (i64 a)), .second, .val (.long (i64 (a / 10 / 10 / 10 / 10 / 10 / 10 / 10 / 10))), .second] [.int (i32 (48 + (a / 10 / 10 / 10 / 10 / 10 / 10 / 10 / 10) % 10)), .int (10 : Int32), .ref ar]
  refine r_castoreV C (pc' := 122) (i := 10) d14_121 rfl A rfl (by simp) (fits_nar_char _) ge ?_
  intro h9 W9 A9
  rw [own_chn (by omega)] at A9
  replace A := A9
  replace Kp := Kp.wr W9 (Or.inl (by simp))
  refine r_lloadN C (pc' := 123) d14_122 rfl rfl ?_
  refine r_ldc2J C (pc' := 126) d14_123 rfl (w77 hw) ?_
  refine r_ldiv C (pc' := 127) d14_126 rfl (by decide) ?_
  rw [show i64 (a / 10 / 10 / 10 / 10 / 10 / 10 / 10 / 10) / (10 : Int64) = i64 (a / 10 / 10 / 10 / 10 / 10 / 10 / 10 / 10 / 10) from i64_div (b := 10) (by omega) (by decide)]
  refine r_lstoreN C (pc' := 128) (Ls' := #[.val (.ref ar), .val (.long (i64 a)), .second, .val (.long (i64 (a / 10 / 10 / 10 / 10 / 10 / 10 / 10 / 10 / 10))), .second]) d14_127 rfl rfl ?_
  refine r_aloadN C (pc' := 129) d14_128 rfl rfl rfl ?_
  refine r_bipush C (pc' := 131) (v := (9)) d14_129 rfl rfl ?_
  refine r_lloadN C (pc' := 132) d14_131 rfl rfl ?_
  refine r_callS C (pc' := 135) (argsL := [.long (i64 (a / 10 / 10 / 10 / 10 / 10 / 10 / 10 / 10 / 10))]) (c_digit l Z a0 hw n0 h9 (a / 10 / 10 / 10 / 10 / 10 / 10 / 10 / 10 / 10) (by omega)) d14_132 rfl (w74 hw) (w75 hw) (w72 hw) (w76 hw) (by decide) pd14 (st := [.int (9 : Int32), .ref ar]) rfl rfl rfl (W := 2) (Nat.le_of_eq rfl) (by decide) (by decide) (by decide) (by decide) (cells' := 0) (slots' := 0) rfl rfl ?_
  rintro _ _ ⟨rfl, rfl⟩
  show Run _ _ _ _ _ _ _ _ 135 #[.val (.ref ar), .val (.long (i64 a)), .second, .val (.long (i64 (a / 10 / 10 / 10 / 10 / 10 / 10 / 10 / 10 / 10))), .second] [.int (i32 (48 + (a / 10 / 10 / 10 / 10 / 10 / 10 / 10 / 10 / 10) % 10)), .int (9 : Int32), .ref ar]
  refine r_castoreV C (pc' := 136) (i := 9) d14_135 rfl A rfl (by simp) (fits_nar_char _) ge ?_
  intro h10 W10 A10
  rw [own_chn (by omega)] at A10
  replace A := A10
  replace Kp := Kp.wr W10 (Or.inl (by simp))
  refine r_lloadN C (pc' := 137) d14_136 rfl rfl ?_
  refine r_ldc2J C (pc' := 140) d14_137 rfl (w77 hw) ?_
  refine r_ldiv C (pc' := 141) d14_140 rfl (by decide) ?_
  rw [show i64 (a / 10 / 10 / 10 / 10 / 10 / 10 / 10 / 10 / 10) / (10 : Int64) = i64 (a / 10 / 10 / 10 / 10 / 10 / 10 / 10 / 10 / 10 / 10) from i64_div (b := 10) (by omega) (by decide)]
  refine r_lstoreN C (pc' := 142) (Ls' := #[.val (.ref ar), .val (.long (i64 a)), .second, .val (.long (i64 (a / 10 / 10 / 10 / 10 / 10 / 10 / 10 / 10 / 10 / 10))), .second]) d14_141 rfl rfl ?_
  refine r_aloadN C (pc' := 143) d14_142 rfl rfl rfl ?_
  refine r_bipush C (pc' := 145) (v := (8)) d14_143 rfl rfl ?_
  refine r_lloadN C (pc' := 146) d14_145 rfl rfl ?_
  refine r_callS C (pc' := 149) (argsL := [.long (i64 (a / 10 / 10 / 10 / 10 / 10 / 10 / 10 / 10 / 10 / 10))]) (c_digit l Z a0 hw n0 h10 (a / 10 / 10 / 10 / 10 / 10 / 10 / 10 / 10 / 10 / 10) (by omega)) d14_146 rfl (w74 hw) (w75 hw) (w72 hw) (w76 hw) (by decide) pd14 (st := [.int (8 : Int32), .ref ar]) rfl rfl rfl (W := 2) (Nat.le_of_eq rfl) (by decide) (by decide) (by decide) (by decide) (cells' := 0) (slots' := 0) rfl rfl ?_
  rintro _ _ ⟨rfl, rfl⟩
  show Run _ _ _ _ _ _ _ _ 149 #[.val (.ref ar), .val (.long (i64 a)), .second, .val (.long (i64 (a / 10 / 10 / 10 / 10 / 10 / 10 / 10 / 10 / 10 / 10))), .second] [.int (i32 (48 + (a / 10 / 10 / 10 / 10 / 10 / 10 / 10 / 10 / 10 / 10) % 10)), .int (8 : Int32), .ref ar]
  refine r_castoreV C (pc' := 150) (i := 8) d14_149 rfl A rfl (by simp) (fits_nar_char _) ge ?_
  intro h11 W11 A11
  rw [own_chn (by omega)] at A11
  replace A := A11
  replace Kp := Kp.wr W11 (Or.inl (by simp))
  refine r_lloadN C (pc' := 151) d14_150 rfl rfl ?_
  refine r_ldc2J C (pc' := 154) d14_151 rfl (w77 hw) ?_
  refine r_ldiv C (pc' := 155) d14_154 rfl (by decide) ?_
  rw [show i64 (a / 10 / 10 / 10 / 10 / 10 / 10 / 10 / 10 / 10 / 10) / (10 : Int64) = i64 (a / 10 / 10 / 10 / 10 / 10 / 10 / 10 / 10 / 10 / 10 / 10) from i64_div (b := 10) (by omega) (by decide)]
  refine r_lstoreN C (pc' := 156) (Ls' := #[.val (.ref ar), .val (.long (i64 a)), .second, .val (.long (i64 (a / 10 / 10 / 10 / 10 / 10 / 10 / 10 / 10 / 10 / 10 / 10))), .second]) d14_155 rfl rfl ?_
  refine r_aloadN C (pc' := 157) d14_156 rfl rfl rfl ?_
  refine r_bipush C (pc' := 159) (v := (7)) d14_157 rfl rfl ?_
  refine r_lloadN C (pc' := 160) d14_159 rfl rfl ?_
  refine r_callS C (pc' := 163) (argsL := [.long (i64 (a / 10 / 10 / 10 / 10 / 10 / 10 / 10 / 10 / 10 / 10 / 10))]) (c_digit l Z a0 hw n0 h11 (a / 10 / 10 / 10 / 10 / 10 / 10 / 10 / 10 / 10 / 10 / 10) (by omega)) d14_160 rfl (w74 hw) (w75 hw) (w72 hw) (w76 hw) (by decide) pd14 (st := [.int (7 : Int32), .ref ar]) rfl rfl rfl (W := 2) (Nat.le_of_eq rfl) (by decide) (by decide) (by decide) (by decide) (cells' := 0) (slots' := 0) rfl rfl ?_
  rintro _ _ ⟨rfl, rfl⟩
  show Run _ _ _ _ _ _ _ _ 163 #[.val (.ref ar), .val (.long (i64 a)), .second, .val (.long (i64 (a / 10 / 10 / 10 / 10 / 10 / 10 / 10 / 10 / 10 / 10 / 10))), .second] [.int (i32 (48 + (a / 10 / 10 / 10 / 10 / 10 / 10 / 10 / 10 / 10 / 10 / 10) % 10)), .int (7 : Int32), .ref ar]
  refine r_castoreV C (pc' := 164) (i := 7) d14_163 rfl A rfl (by simp) (fits_nar_char _) ge ?_
  intro h12 W12 A12
  rw [own_chn (by omega)] at A12
  replace A := A12
  replace Kp := Kp.wr W12 (Or.inl (by simp))
  refine r_lloadN C (pc' := 165) d14_164 rfl rfl ?_
  refine r_ldc2J C (pc' := 168) d14_165 rfl (w77 hw) ?_
  refine r_ldiv C (pc' := 169) d14_168 rfl (by decide) ?_
  rw [show i64 (a / 10 / 10 / 10 / 10 / 10 / 10 / 10 / 10 / 10 / 10 / 10) / (10 : Int64) = i64 (a / 10 / 10 / 10 / 10 / 10 / 10 / 10 / 10 / 10 / 10 / 10 / 10) from i64_div (b := 10) (by omega) (by decide)]
  refine r_lstoreN C (pc' := 170) (Ls' := #[.val (.ref ar), .val (.long (i64 a)), .second, .val (.long (i64 (a / 10 / 10 / 10 / 10 / 10 / 10 / 10 / 10 / 10 / 10 / 10 / 10))), .second]) d14_169 rfl rfl ?_
  refine r_aloadN C (pc' := 171) d14_170 rfl rfl rfl ?_
  refine r_bipush C (pc' := 173) (v := (6)) d14_171 rfl rfl ?_
  refine r_lloadN C (pc' := 174) d14_173 rfl rfl ?_
  refine r_callS C (pc' := 177) (argsL := [.long (i64 (a / 10 / 10 / 10 / 10 / 10 / 10 / 10 / 10 / 10 / 10 / 10 / 10))]) (c_digit l Z a0 hw n0 h12 (a / 10 / 10 / 10 / 10 / 10 / 10 / 10 / 10 / 10 / 10 / 10 / 10) (by omega)) d14_174 rfl (w74 hw) (w75 hw) (w72 hw) (w76 hw) (by decide) pd14 (st := [.int (6 : Int32), .ref ar]) rfl rfl rfl (W := 2) (Nat.le_of_eq rfl) (by decide) (by decide) (by decide) (by decide) (cells' := 0) (slots' := 0) rfl rfl ?_
  rintro _ _ ⟨rfl, rfl⟩
  show Run _ _ _ _ _ _ _ _ 177 #[.val (.ref ar), .val (.long (i64 a)), .second, .val (.long (i64 (a / 10 / 10 / 10 / 10 / 10 / 10 / 10 / 10 / 10 / 10 / 10 / 10))), .second] [.int (i32 (48 + (a / 10 / 10 / 10 / 10 / 10 / 10 / 10 / 10 / 10 / 10 / 10 / 10) % 10)), .int (6 : Int32), .ref ar]
  refine r_castoreV C (pc' := 178) (i := 6) d14_177 rfl A rfl (by simp) (fits_nar_char _) ge ?_
  intro h13 W13 A13
  rw [own_chn (by omega)] at A13
  replace A := A13
  replace Kp := Kp.wr W13 (Or.inl (by simp))
  refine r_lloadN C (pc' := 179) d14_178 rfl rfl ?_
  refine r_ldc2J C (pc' := 182) d14_179 rfl (w77 hw) ?_
  refine r_ldiv C (pc' := 183) d14_182 rfl (by decide) ?_
  rw [show i64 (a / 10 / 10 / 10 / 10 / 10 / 10 / 10 / 10 / 10 / 10 / 10 / 10) / (10 : Int64) = i64 (a / 10 / 10 / 10 / 10 / 10 / 10 / 10 / 10 / 10 / 10 / 10 / 10 / 10) from i64_div (b := 10) (by omega) (by decide)]
  refine r_lstoreN C (pc' := 184) (Ls' := #[.val (.ref ar), .val (.long (i64 a)), .second, .val (.long (i64 (a / 10 / 10 / 10 / 10 / 10 / 10 / 10 / 10 / 10 / 10 / 10 / 10 / 10))), .second]) d14_183 rfl rfl ?_
  refine r_aloadN C (pc' := 185) d14_184 rfl rfl rfl ?_
  refine r_iconst C (pc' := 186) (v := 5) d14_185 rfl rfl ?_
  refine r_lloadN C (pc' := 187) d14_186 rfl rfl ?_
  refine r_callS C (pc' := 190) (argsL := [.long (i64 (a / 10 / 10 / 10 / 10 / 10 / 10 / 10 / 10 / 10 / 10 / 10 / 10 / 10))]) (c_digit l Z a0 hw n0 h13 (a / 10 / 10 / 10 / 10 / 10 / 10 / 10 / 10 / 10 / 10 / 10 / 10 / 10) (by omega)) d14_187 rfl (w74 hw) (w75 hw) (w72 hw) (w76 hw) (by decide) pd14 (st := [.int (5 : Int32), .ref ar]) rfl rfl rfl (W := 2) (Nat.le_of_eq rfl) (by decide) (by decide) (by decide) (by decide) (cells' := 0) (slots' := 0) rfl rfl ?_
  rintro _ _ ⟨rfl, rfl⟩
  show Run _ _ _ _ _ _ _ _ 190 #[.val (.ref ar), .val (.long (i64 a)), .second, .val (.long (i64 (a / 10 / 10 / 10 / 10 / 10 / 10 / 10 / 10 / 10 / 10 / 10 / 10 / 10))), .second] [.int (i32 (48 + (a / 10 / 10 / 10 / 10 / 10 / 10 / 10 / 10 / 10 / 10 / 10 / 10 / 10) % 10)), .int (5 : Int32), .ref ar]
  refine r_castoreV C (pc' := 191) (i := 5) d14_190 rfl A rfl (by simp) (fits_nar_char _) ge ?_
  intro h14 W14 A14
  rw [own_chn (by omega)] at A14
  replace A := A14
  replace Kp := Kp.wr W14 (Or.inl (by simp))
  refine r_lloadN C (pc' := 192) d14_191 rfl rfl ?_
  refine r_ldc2J C (pc' := 195) d14_192 rfl (w77 hw) ?_
  refine r_ldiv C (pc' := 196) d14_195 rfl (by decide) ?_
  rw [show i64 (a / 10 / 10 / 10 / 10 / 10 / 10 / 10 / 10 / 10 / 10 / 10 / 10 / 10) / (10 : Int64) = i64 (a / 10 / 10 / 10 / 10 / 10 / 10 / 10 / 10 / 10 / 10 / 10 / 10 / 10 / 10) from i64_div (b := 10) (by omega) (by decide)]
  refine r_lstoreN C (pc' := 197) (Ls' := #[.val (.ref ar), .val (.long (i64 a)), .second, .val (.long (i64 (a / 10 / 10 / 10 / 10 / 10 / 10 / 10 / 10 / 10 / 10 / 10 / 10 / 10 / 10))), .second]) d14_196 rfl rfl ?_
  refine r_aloadN C (pc' := 198) d14_197 rfl rfl rfl ?_
  refine r_iconst C (pc' := 199) (v := 4) d14_198 rfl rfl ?_
  refine r_lloadN C (pc' := 200) d14_199 rfl rfl ?_
  refine r_callS C (pc' := 203) (argsL := [.long (i64 (a / 10 / 10 / 10 / 10 / 10 / 10 / 10 / 10 / 10 / 10 / 10 / 10 / 10 / 10))]) (c_digit l Z a0 hw n0 h14 (a / 10 / 10 / 10 / 10 / 10 / 10 / 10 / 10 / 10 / 10 / 10 / 10 / 10 / 10) (by omega)) d14_200 rfl (w74 hw) (w75 hw) (w72 hw) (w76 hw) (by decide) pd14 (st := [.int (4 : Int32), .ref ar]) rfl rfl rfl (W := 2) (Nat.le_of_eq rfl) (by decide) (by decide) (by decide) (by decide) (cells' := 0) (slots' := 0) rfl rfl ?_
  rintro _ _ ⟨rfl, rfl⟩
  show Run _ _ _ _ _ _ _ _ 203 #[.val (.ref ar), .val (.long (i64 a)), .second, .val (.long (i64 (a / 10 / 10 / 10 / 10 / 10 / 10 / 10 / 10 / 10 / 10 / 10 / 10 / 10 / 10))), .second] [.int (i32 (48 + (a / 10 / 10 / 10 / 10 / 10 / 10 / 10 / 10 / 10 / 10 / 10 / 10 / 10 / 10) % 10)), .int (4 : Int32), .ref ar]
  refine r_castoreV C (pc' := 204) (i := 4) d14_203 rfl A rfl (by simp) (fits_nar_char _) ge ?_
  intro h15 W15 A15
  rw [own_chn (by omega)] at A15
  replace A := A15
  replace Kp := Kp.wr W15 (Or.inl (by simp))
  refine r_lloadN C (pc' := 205) d14_204 rfl rfl ?_
  refine r_ldc2J C (pc' := 208) d14_205 rfl (w77 hw) ?_
  refine r_ldiv C (pc' := 209) d14_208 rfl (by decide) ?_
  rw [show i64 (a / 10 / 10 / 10 / 10 / 10 / 10 / 10 / 10 / 10 / 10 / 10 / 10 / 10 / 10) / (10 : Int64) = i64 (a / 10 / 10 / 10 / 10 / 10 / 10 / 10 / 10 / 10 / 10 / 10 / 10 / 10 / 10 / 10) from i64_div (b := 10) (by omega) (by decide)]
  refine r_lstoreN C (pc' := 210) (Ls' := #[.val (.ref ar), .val (.long (i64 a)), .second, .val (.long (i64 (a / 10 / 10 / 10 / 10 / 10 / 10 / 10 / 10 / 10 / 10 / 10 / 10 / 10 / 10 / 10))), .second]) d14_209 rfl rfl ?_
  refine r_aloadN C (pc' := 211) d14_210 rfl rfl rfl ?_
  refine r_iconst C (pc' := 212) (v := 3) d14_211 rfl rfl ?_
  refine r_lloadN C (pc' := 213) d14_212 rfl rfl ?_
  refine r_callS C (pc' := 216) (argsL := [.long (i64 (a / 10 / 10 / 10 / 10 / 10 / 10 / 10 / 10 / 10 / 10 / 10 / 10 / 10 / 10 / 10))]) (c_digit l Z a0 hw n0 h15 (a / 10 / 10 / 10 / 10 / 10 / 10 / 10 / 10 / 10 / 10 / 10 / 10 / 10 / 10 / 10) (by omega)) d14_213 rfl (w74 hw) (w75 hw) (w72 hw) (w76 hw) (by decide) pd14 (st := [.int (3 : Int32), .ref ar]) rfl rfl rfl (W := 2) (Nat.le_of_eq rfl) (by decide) (by decide) (by decide) (by decide) (cells' := 0) (slots' := 0) rfl rfl ?_
  rintro _ _ ⟨rfl, rfl⟩
  show Run _ _ _ _ _ _ _ _ 216 #[.val (.ref ar), .val (.long (i64 a)), .second, .val (.long (i64 (a / 10 / 10 / 10 / 10 / 10 / 10 / 10 / 10 / 10 / 10 / 10 / 10 / 10 / 10 / 10))), .second] [.int (i32 (48 + (a / 10 / 10 / 10 / 10 / 10 / 10 / 10 / 10 / 10 / 10 / 10 / 10 / 10 / 10 / 10) % 10)), .int (3 : Int32), .ref ar]
  refine r_castoreV C (pc' := 217) (i := 3) d14_216 rfl A rfl (by simp) (fits_nar_char _) ge ?_
  intro h16 W16 A16
  rw [own_chn (by omega)] at A16
  replace A := A16
  replace Kp := Kp.wr W16 (Or.inl (by simp))
  refine r_lloadN C (pc' := 218) d14_217 rfl rfl ?_
  refine r_ldc2J C (pc' := 221) d14_218 rfl (w77 hw) ?_
  refine r_ldiv C (pc' := 222) d14_221 rfl (by decide) ?_
  rw [show i64 (a / 10 / 10 / 10 / 10 / 10 / 10 / 10 / 10 / 10 / 10 / 10 / 10 / 10 / 10 / 10) / (10 : Int64) = i64 (a / 10 / 10 / 10 / 10 / 10 / 10 / 10 / 10 / 10 / 10 / 10 / 10 / 10 / 10 / 10 / 10) from i64_div (b := 10) (by omega) (by decide)]
  refine r_lstoreN C (pc' := 223) (Ls' := #[.val (.ref ar), .val (.long (i64 a)), .second, .val (.long (i64 (a / 10 / 10 / 10 / 10 / 10 / 10 / 10 / 10 / 10 / 10 / 10 / 10 / 10 / 10 / 10 / 10))), .second]) d14_222 rfl rfl ?_
  refine r_aloadN C (pc' := 224) d14_223 rfl rfl rfl ?_
  refine r_iconst C (pc' := 225) (v := 2) d14_224 rfl rfl ?_
  refine r_lloadN C (pc' := 226) d14_225 rfl rfl ?_
  refine r_callS C (pc' := 229) (argsL := [.long (i64 (a / 10 / 10 / 10 / 10 / 10 / 10 / 10 / 10 / 10 / 10 / 10 / 10 / 10 / 10 / 10 / 10))]) (c_digit l Z a0 hw n0 h16 (a / 10 / 10 / 10 / 10 / 10 / 10 / 10 / 10 / 10 / 10 / 10 / 10 / 10 / 10 / 10 / 10) (by omega)) d14_226 rfl (w74 hw) (w75 hw) (w72 hw) (w76 hw) (by decide) pd14 (st := [.int (2 : Int32), .ref ar]) rfl rfl rfl (W := 2) (Nat.le_of_eq rfl) (by decide) (by decide) (by decide) (by decide) (cells' := 0) (slots' := 0) rfl rfl ?_
  rintro _ _ ⟨rfl, rfl⟩
  show Run _ _ _ _ _ _ _ _ 229 #[.val (.ref ar), .val (.long (i64 a)), .second, .val (.long (i64 (a / 10 / 10 / 10 / 10 / 10 / 10 / 10 / 10 / 10 / 10 / 10 / 10 / 10 / 10 / 10 / 10))), .second] [.int (i32 (48 + (a / 10 / 10 / 10 / 10 / 10 / 10 / 10 / 10 / 10 / 10 / 10 / 10 / 10 / 10 / 10 / 10) % 10)), .int (2 : Int32), .ref ar]
  refine r_castoreV C (pc' := 230) (i := 2) d14_229 rfl A rfl (by simp) (fits_nar_char _) ge ?_
  intro h17 W17 A17
  rw [own_chn (by omega)] at A17
  replace A := A17
  replace Kp := Kp.wr W17 (Or.inl (by simp))
  refine r_lloadN C (pc' := 231) d14_230 rfl rfl ?_
  refine r_ldc2J C (pc' := 234) d14_231 rfl (w77 hw) ?_
  refine r_ldiv C (pc' := 235) d14_234 rfl (by decide) ?_
  rw [show i64 (a / 10 / 10 / 10 / 10 / 10 / 10 / 10 / 10 / 10 / 10 / 10 / 10 / 10 / 10 / 10 / 10) / (10 : Int64) = i64 (a / 10 / 10 / 10 / 10 / 10 / 10 / 10 / 10 / 10 / 10 / 10 / 10 / 10 / 10 / 10 / 10 / 10) from i64_div (b := 10) (by omega) (by decide)]
  refine r_lstoreN C (pc' := 236) (Ls' := #[.val (.ref ar), .val (.long (i64 a)), .second, .val (.long (i64 (a / 10 / 10 / 10 / 10 / 10 / 10 / 10 / 10 / 10 / 10 / 10 / 10 / 10 / 10 / 10 / 10 / 10))), .second]) d14_235 rfl rfl ?_
  refine r_aloadN C (pc' := 237) d14_236 rfl rfl rfl ?_
  refine r_iconst C (pc' := 238) (v := 1) d14_237 rfl rfl ?_
  refine r_lloadN C (pc' := 239) d14_238 rfl rfl ?_
  refine r_callS C (pc' := 242) (argsL := [.long (i64 (a / 10 / 10 / 10 / 10 / 10 / 10 / 10 / 10 / 10 / 10 / 10 / 10 / 10 / 10 / 10 / 10 / 10))]) (c_digit l Z a0 hw n0 h17 (a / 10 / 10 / 10 / 10 / 10 / 10 / 10 / 10 / 10 / 10 / 10 / 10 / 10 / 10 / 10 / 10 / 10) (by omega)) d14_239 rfl (w74 hw) (w75 hw) (w72 hw) (w76 hw) (by decide) pd14 (st := [.int (1 : Int32), .ref ar]) rfl rfl rfl (W := 2) (Nat.le_of_eq rfl) (by decide) (by decide) (by decide) (by decide) (cells' := 0) (slots' := 0) rfl rfl ?_
  rintro _ _ ⟨rfl, rfl⟩
  show Run _ _ _ _ _ _ _ _ 242 #[.val (.ref ar), .val (.long (i64 a)), .second, .val (.long (i64 (a / 10 / 10 / 10 / 10 / 10 / 10 / 10 / 10 / 10 / 10 / 10 / 10 / 10 / 10 / 10 / 10 / 10))), .second] [.int (i32 (48 + (a / 10 / 10 / 10 / 10 / 10 / 10 / 10 / 10 / 10 / 10 / 10 / 10 / 10 / 10 / 10 / 10 / 10) % 10)), .int (1 : Int32), .ref ar]
  refine r_castoreV C (pc' := 243) (i := 1) d14_242 rfl A rfl (by simp) (fits_nar_char _) ge ?_
  intro h18 W18 A18
  rw [own_chn (by omega)] at A18
  replace A := A18
  replace Kp := Kp.wr W18 (Or.inl (by simp))
  exact r_return C d14_243 (by decide) (by decide) (Nat.zero_le _) (fun _ _ => ⟨rfl, Kp, A⟩)
set_option maxRecDepth 65536 in
set_option maxHeartbeats 40000000 in
theorem rm0 (l : Launch) (Z : State) (a0 : Array Value) (hw : ∀ d ∈ tables_1, d.before a0 Z = true) (n0 : Nat) (h0 : Heap) (xx : Int64) (y z mode : Int32) (cc : Int32) (fv : Value) (ss : own_SS Z cc fv) (ol : Old Z n0 h0) (hn0 : n0 ≤ h0.size) (held : Jvm.Lit.constHeld Z "com/example/wrange/wrange/FragmentParseNumberPinLaw" 14) (hcw : Jvm.Lit.compactW.before a0 Z = true) :
    ConW l tables_1 x code maxLocals ret room_1 Z #[(.long xx), (.int y), (.int z), (.int mode)] h0 n0 (fun vm => IB Z vm []) (fun v _ _ => v = some (.int 1)) := by
  refine enterW (Ls := #[.val (.long xx), .second, .val (.int y), .val (.int z), .val (.int mode), .unset, .unset, .unset, .unset, .unset, .unset, .unset, .unset]) pn19 (fun m => by first | (simp [entryFrame, mkF, argsToLocals, Value.category, maxLocals]; done) | rfl) ?_
  intro K vm kz B D hkz hV
  replace B : Wb l room_1 Z "com/example/wrange/wrange/FragmentParseNumberPinLaw" "law" code 13 (some .boolean) n0 h0 K := B
  have C := B.ctx0 D
  have wS : ∀ a ∈ Bundle.stringAtoms, a.before a0 Z = true := (by intro a ha; simp only [Bundle.stringAtoms, List.mem_cons, List.not_mem_nil, or_false] at ha; rcases ha with rfl | rfl | rfl | rfl | rfl | rfl | rfl <;> first | exact (w4 hw) | exact (w5 hw) | exact (w6 hw) | exact (w7 hw) | exact (w8 hw) | exact (w9 hw) | exact (w10 hw))
  obtain ⟨xn, hx, ex⟩ := i64_and xx
  obtain ⟨yn, hy, ey⟩ := i32_and y
  obtain ⟨zn, hz, ez⟩ := i32_and z
  obtain ⟨mn, hm, em⟩ := i32_and mode
  refine r_lloadN C (pc' := 1) at_0 rfl rfl ?_
  refine r_ldc2J C (pc' := 4) at_1 rfl (w0 hw) ?_
  refine r_land C (pc' := 5) at_4 rfl ?_
  refine r_ldc2J C (pc' := 8) at_5 rfl (w1 hw) ?_
  refine r_lrem C (pc' := 9) at_8 rfl (by decide) ?_
  rw [ex, show i64 xn - i64 xn / (1000000000000000000 : Int64) * (1000000000000000000 : Int64) = i64 (xn % 1000000000000000000) from i64_rem (b := 1000000000000000000) hx (by decide)]
  obtain ⟨a, ea⟩ : ∃ a, xn % 1000000000000000000 = a := ⟨_, rfl⟩
  have ha : a < 1000000000000000000 := by omega
  rw [ea]
  refine r_lstore C (pc' := 11) (Ls' := #[.val (.long xx), .second, .val (.int y), .val (.int z), .val (.int mode), .val (.long (i64 a)), .second, .unset, .unset, .unset, .unset, .unset, .unset]) at_9 rfl rfl ?_
  refine r_iloadN C (pc' := 12) at_11 rfl rfl ?_
  refine r_ldcI C (pc' := 14) at_12 rfl (w2 hw) ?_
  refine r_iand C (pc' := 15) at_14 rfl ?_
  refine r_bipush C (pc' := 17) (v := (10)) at_15 rfl rfl ?_
  refine r_irem C (pc' := 18) at_17 rfl (by decide) ?_
  rw [ey, show i32 yn % (10 : Int32) = i32 (yn % 10) from i32_rem (b := 10) hy (by decide)]
  obtain ⟨b, eb⟩ : ∃ b, yn % 10 = b := ⟨_, rfl⟩
  have hb : b < 10 := by omega
  rw [eb]
  refine r_istore C (pc' := 20) (Ls' := #[.val (.long xx), .second, .val (.int y), .val (.int z), .val (.int mode), .val (.long (i64 a)), .second, .val (.int (i32 b)), .unset, .unset, .unset, .unset, .unset]) at_18 rfl rfl ?_
  refine r_iloadN C (pc' := 21) at_20 rfl rfl ?_
  refine r_ldcI C (pc' := 23) at_21 rfl (w2 hw) ?_
  refine r_iand C (pc' := 24) at_23 rfl ?_
  refine r_bipush C (pc' := 26) (v := (10)) at_24 rfl rfl ?_
  refine r_irem C (pc' := 27) at_26 rfl (by decide) ?_
  rw [ez, show i32 zn % (10 : Int32) = i32 (zn % 10) from i32_rem (b := 10) hz (by decide)]
  obtain ⟨d, ed⟩ : ∃ d, zn % 10 = d := ⟨_, rfl⟩
  have hd : d < 10 := by omega
  rw [ed]
  refine r_istore C (pc' := 29) (Ls' := #[.val (.long xx), .second, .val (.int y), .val (.int z), .val (.int mode), .val (.long (i64 a)), .second, .val (.int (i32 b)), .val (.int (i32 d)), .unset, .unset, .unset, .unset]) at_27 rfl rfl ?_
  refine r_iload C (pc' := 31) at_29 rfl rfl ?_
  refine r_ldcI C (pc' := 33) at_31 rfl (w2 hw) ?_
  refine r_iand C (pc' := 34) at_33 rfl ?_
  refine r_iconst C (pc' := 35) (v := 3) at_34 rfl rfl ?_
  refine r_irem C (pc' := 36) at_35 rfl (by decide) ?_
  rw [em, show i32 mn % (3 : Int32) = i32 (mn % 3) from i32_rem (b := 3) hm (by decide)]
  obtain ⟨g, eg⟩ : ∃ g, mn % 3 = g := ⟨_, rfl⟩
  have hg : g < 3 := by omega
  rw [eg]
  refine r_istore C (pc' := 38) (Ls' := #[.val (.long xx), .second, .val (.int y), .val (.int z), .val (.int mode), .val (.long (i64 a)), .second, .val (.int (i32 b)), .val (.int (i32 d)), .val (.int (i32 g)), .unset, .unset, .unset]) at_36 rfl rfl ?_
  refine r_iload C (pc' := 40) at_38 rfl rfl ?_
  refine r_if_ne C (pt := 59) (pc' := 43) at_40 (by decide) (by decide) rfl ?_ ?_
  · intro q
    refine Run.touch ?_
    replace C := B.ctx D
    refine r_iload C (pc' := 61) at_59 rfl rfl ?_
    refine r_iconst C (pc' := 62) (v := 1) at_61 rfl rfl ?_
    refine r_icmp_ne C (pt := 90) (pc' := 65) at_62 (by decide) (by decide) rfl ?_ ?_
    · intro q1
      refine r_bipush C (pc' := 92) (v := (20)) at_90 rfl rfl ?_
      refine r_newarrayV C (pc' := 94) (ty := .char) (m := 20) (cap := 20) at_92 rfl rfl (w69 hw) rfl (by decide) (by decide) (by decide) (by decide) ?_
      intro h1 ar k ga E1 A1
      have x1 := E1.1
      replace ol := ol.ext E1
      refine r_astore C (pc' := 96) (Ls' := #[.val (.long xx), .second, .val (.int y), .val (.int z), .val (.int mode), .val (.long (i64 a)), .second, .val (.int (i32 b)), .val (.int (i32 d)), .val (.int (i32 g)), .val (.ref ar), .unset, .unset]) at_94 rfl rfl rfl ?_
      refine r_aload C (pc' := 98) at_96 rfl rfl rfl ?_
      refine r_iconst C (pc' := 99) (v := 0) at_98 rfl rfl ?_
      refine r_bipush C (pc' := 101) (v := (48)) at_99 rfl rfl ?_
      refine r_iload C (pc' := 103) at_101 rfl rfl ?_
      refine r_iadd C (pc' := 104) at_103 rfl ?_
      refine r_i2c C (pc' := 105) at_104 rfl ?_
      rw [show (48 : Int32) + i32 d = i32 (48 + d) from i32_add 48 d, own_ch (by omega)]
      refine r_castoreV C (pc' := 106) (i := 0) at_105 rfl A1 rfl (by decide) (fits_nar_char _) (by omega) ?_
      intro h2 W2 A2
      rw [own_chn (by omega)] at A2
      replace ol := ol.wr W2 (by omega)
      have x2 := W2.size
      refine r_aload C (pc' := 108) at_106 rfl rfl rfl ?_
      refine r_lload C (pc' := 110) at_108 rfl rfl ?_
      refine r_callS C (pc' := 113) (argsL := [.ref ar, .long (i64 a)]) (c_fill l Z a0 hw n0 h2 ar k _ a ha (by omega) A2) at_110 rfl (w70 hw) (w71 hw) (w72 hw) (w73 hw) (by decide) pd15 (st := []) rfl rfl rfl (W := 0) (Nat.le_of_eq rfl) (by decide) (by decide) (by decide) (by decide) (cells' := 1) (slots' := 20) rfl rfl ?_
      rintro _ h3 ⟨rfl, K3, A3⟩
      show Run _ _ _ _ _ h3 _ _ 113 #[.val (.long xx), .second, .val (.int y), .val (.int z), .val (.int mode), .val (.long (i64 a)), .second, .val (.int (i32 b)), .val (.int (i32 d)), .val (.int (i32 g)), .val (.ref ar), .unset, .unset] []
      have x3 := K3.1
      replace ol := ol.keep K3 (by simp; omega)
      refine r_aload C (pc' := 115) at_113 rfl rfl rfl ?_
      refine r_bipush C (pc' := 117) (v := (19)) at_115 rfl rfl ?_
      refine r_bipush C (pc' := 119) (v := (48)) at_117 rfl rfl ?_
      refine r_iload C (pc' := 121) at_119 rfl rfl ?_
      refine r_iadd C (pc' := 122) at_121 rfl ?_
      refine r_i2c C (pc' := 123) at_122 rfl ?_
      rw [show (48 : Int32) + i32 b = i32 (48 + b) from i32_add 48 b, own_ch (by omega)]
      refine r_castoreV C (pc' := 124) (i := 19) at_123 rfl A3 rfl (by simp) (fits_nar_char _) (by omega) ?_
      intro h4 W4 A4
      rw [own_chn (by omega)] at A4
      replace ol := ol.wr W4 (by omega)
      have x4 := W4.size
      have A5 : AV Z h4 ar k .char ((own_digs d a b).map vch) (.int 0) := A4
      have hok := own_digs_ok (a := a) hd hb
      skip
      refine r_iload C (pc' := 126) at_124 rfl rfl ?_
      refine r_if_eq C (pt := 137) (pc' := 129) at_126 (by decide) (by decide) rfl ?_ ?_
      · intro q2
        have d0 : d = 0 := (i32_eq (b := 0) (by omega) (by decide)).mp q2
        refine r_lload C (pc' := 139) at_137 rfl rfl ?_
        refine r_ldc2J C (pc' := 142) at_139 rfl (w95 hw) ?_
        refine r_lcmp_gt C (pt := 162) (pc' := 146) at_142 at_143 (by decide) (by decide) rfl ?_ ?_
        · intro q3
          have q3' : 922337203685477580 < a := (i64_lt (a := 922337203685477580) (by decide) (by omega)).mp q3
          refine r_ldc2J C (pc' := 165) at_162 rfl (w0 hw) ?_
          refine r_lstore C (pc' := 167) (Ls' := #[.val (.long xx), .second, .val (.int y), .val (.int z), .val (.int mode), .val (.long (i64 a)), .second, .val (.int (i32 b)), .val (.int (i32 d)), .val (.int (i32 g)), .val (.ref ar), .val (.long (9223372036854775807 : Int64)), .second]) at_165 rfl rfl ?_
          refine r_goto C (pc' := 182) at_167 (by decide) (by decide) ?_
          refine r_new C (pc' := 185) at_182 rfl (w78 hw) (w5 hw) (w4 hw) (by decide) (by decide) ?_
          intro h5 s gs E5 Es D5
          have Fv : Fld Z h5 s "java/lang/String" "value" "[B" (.null) := D5 (Or.inr (w7 hw)) (ty := (.array .byte)) (by decide)
          have Fc : Fld Z h5 s "java/lang/String" "coder" "B" (.int 0) := D5 (Or.inr (w8 hw)) (ty := .byte) (by decide)
          have x_h5 := E5.1
          replace ol := ol.ext E5
          refine r_dup C (pc' := 186) at_185 rfl rfl ?_
          refine r_aload C (pc' := 188) at_186 rfl rfl rfl ?_
          refine r_callI C (pc' := 191) (argsL := [.ref ar]) (c_initC l Z a0 hw n0 h5 cc fv ss ol (by omega) s ar k (own_digs d a b) (by omega) Es _ _ Fv Fc (A5.ext E5) (fun c hc => by have := hok c hc; omega) (show (20 : Nat) ≠ 0 by decide) (Nat.le_refl 20)) at_188 rfl (w79 hw) (w80 hw) (w4 hw) (w81 hw) rfl (by decide) pd16 (st := [.ref s]) rfl rfl rfl (W := 1) (Nat.le_of_eq rfl) (by decide) (by decide) (by decide) (by decide) (cells' := 3) (slots' := 44) rfl rfl ?_
          rintro _ h6 ⟨rfl, K6, bb, kb, S6, gb⟩
          show Run _ _ _ _ _ h6 _ _ 191 #[.val (.long xx), .second, .val (.int y), .val (.int z), .val (.int mode), .val (.long (i64 a)), .second, .val (.int (i32 b)), .val (.int (i32 d)), .val (.int (i32 g)), .val (.ref ar), .val (.long (9223372036854775807 : Int64)), .second] [.ref s]
          replace ol := ol.keep K6 (by simp; omega)
          have x6 := K6.1
          refine r_callS C (pc' := 194) (argsL := [.ref s]) (c_parse l Z a0 hw n0 h6 cc fv ss ol s bb kb _ S6 hok) at_191 rfl (w11 hw) (w12 hw) (w13 hw) (w14 hw) (by decide) pd17 (st := []) rfl rfl rfl (W := 0) (Nat.le_of_eq rfl) (by decide) (by decide) (by decide) (by decide) (cells' := 3) (slots' := 44) rfl rfl ?_
          rintro _ _ ⟨rfl, rfl⟩
          show Run _ _ _ _ _ _ _ _ 194 #[.val (.long xx), .second, .val (.int y), .val (.int z), .val (.int mode), .val (.long (i64 a)), .second, .val (.int (i32 b)), .val (.int (i32 d)), .val (.int (i32 g)), .val (.ref ar), .val (.long (9223372036854775807 : Int64)), .second] [.long (i64 (own_pn (own_digs d a b) 0))]
          refine r_lload C (pc' := 196) at_194 rfl rfl ?_
          refine r_lcmp_ne C (pt := 204) (pc' := 200) at_196 at_197 (by decide) (by decide) rfl ?_ ?_
          · intro q9
            exact absurd (own_law_max hd hb ha (by omega)) q9
          · intro q9
            refine r_iconst C (pc' := 201) (v := 1) at_200 rfl rfl ?_
            refine r_goto C (pc' := 205) at_201 (by decide) (by decide) ?_
            exact r_zreturn C at_205 rfl (by decide) (by decide) (by omega) (fun _ _ => rfl)
        · intro q3
          have q3' : ¬ 922337203685477580 < a := fun z => q3 ((i64_lt (a := 922337203685477580) (by decide) (by omega)).mpr z)
          refine r_lload C (pc' := 148) at_146 rfl rfl ?_
          refine r_ldc2J C (pc' := 151) at_148 rfl (w95 hw) ?_
          refine r_lcmp_ne C (pt := 170) (pc' := 155) at_151 at_152 (by decide) (by decide) rfl ?_ ?_
          · intro q4
            have q4' : a ≠ 922337203685477580 := fun z => q4 (by rw [z]; rfl)
            refine r_lload C (pc' := 172) at_170 rfl rfl ?_
            refine r_ldc2J C (pc' := 175) at_172 rfl (w77 hw) ?_
            refine r_lmul C (pc' := 176) at_175 rfl ?_
            refine r_iload C (pc' := 178) at_176 rfl rfl ?_
            refine r_i2l C (pc' := 179) at_178 rfl ?_
            refine r_ladd C (pc' := 180) at_179 rfl ?_
            refine r_lstore C (pc' := 182) (Ls' := #[.val (.long xx), .second, .val (.int y), .val (.int z), .val (.int mode), .val (.long (i64 a)), .second, .val (.int (i32 b)), .val (.int (i32 d)), .val (.int (i32 g)), .val (.ref ar), .val (.long (((i64 a) * (10 : Int64)) + ((i32 b).toInt64))), .second]) at_180 rfl rfl ?_
            refine r_new C (pc' := 185) at_182 rfl (w78 hw) (w5 hw) (w4 hw) (by decide) (by decide) ?_
            intro h5 s gs E5 Es D5
            have Fv : Fld Z h5 s "java/lang/String" "value" "[B" (.null) := D5 (Or.inr (w7 hw)) (ty := (.array .byte)) (by decide)
            have Fc : Fld Z h5 s "java/lang/String" "coder" "B" (.int 0) := D5 (Or.inr (w8 hw)) (ty := .byte) (by decide)
            have x_h5 := E5.1
            replace ol := ol.ext E5
            refine r_dup C (pc' := 186) at_185 rfl rfl ?_
            refine r_aload C (pc' := 188) at_186 rfl rfl rfl ?_
            refine r_callI C (pc' := 191) (argsL := [.ref ar]) (c_initC l Z a0 hw n0 h5 cc fv ss ol (by omega) s ar k (own_digs d a b) (by omega) Es _ _ Fv Fc (A5.ext E5) (fun c hc => by have := hok c hc; omega) (show (20 : Nat) ≠ 0 by decide) (Nat.le_refl 20)) at_188 rfl (w79 hw) (w80 hw) (w4 hw) (w81 hw) rfl (by decide) pd16 (st := [.ref s]) rfl rfl rfl (W := 1) (Nat.le_of_eq rfl) (by decide) (by decide) (by decide) (by decide) (cells' := 3) (slots' := 44) rfl rfl ?_
            rintro _ h6 ⟨rfl, K6, bb, kb, S6, gb⟩
            show Run _ _ _ _ _ h6 _ _ 191 #[.val (.long xx), .second, .val (.int y), .val (.int z), .val (.int mode), .val (.long (i64 a)), .second, .val (.int (i32 b)), .val (.int (i32 d)), .val (.int (i32 g)), .val (.ref ar), .val (.long (((i64 a) * (10 : Int64)) + ((i32 b).toInt64))), .second] [.ref s]
            replace ol := ol.keep K6 (by simp; omega)
            have x6 := K6.1
            refine r_callS C (pc' := 194) (argsL := [.ref s]) (c_parse l Z a0 hw n0 h6 cc fv ss ol s bb kb _ S6 hok) at_191 rfl (w11 hw) (w12 hw) (w13 hw) (w14 hw) (by decide) pd17 (st := []) rfl rfl rfl (W := 0) (Nat.le_of_eq rfl) (by decide) (by decide) (by decide) (by decide) (cells' := 3) (slots' := 44) rfl rfl ?_
            rintro _ _ ⟨rfl, rfl⟩
            show Run _ _ _ _ _ _ _ _ 194 #[.val (.long xx), .second, .val (.int y), .val (.int z), .val (.int mode), .val (.long (i64 a)), .second, .val (.int (i32 b)), .val (.int (i32 d)), .val (.int (i32 g)), .val (.ref ar), .val (.long (((i64 a) * (10 : Int64)) + ((i32 b).toInt64))), .second] [.long (i64 (own_pn (own_digs d a b) 0))]
            refine r_lload C (pc' := 196) at_194 rfl rfl ?_
            refine r_lcmp_ne C (pt := 204) (pc' := 200) at_196 at_197 (by decide) (by decide) rfl ?_ ?_
            · intro q9
              exact absurd (own_law_val hd hb ha d0 (by omega)) q9
            · intro q9
              refine r_iconst C (pc' := 201) (v := 1) at_200 rfl rfl ?_
              refine r_goto C (pc' := 205) at_201 (by decide) (by decide) ?_
              exact r_zreturn C at_205 rfl (by decide) (by decide) (by omega) (fun _ _ => rfl)
          · intro q4
            have q4' : a = 922337203685477580 := (i64_eq (b := 922337203685477580) (by omega) (by decide)).mp q4
            refine r_iload C (pc' := 157) at_155 rfl rfl ?_
            refine r_bipush C (pc' := 159) (v := (7)) at_157 rfl rfl ?_
            refine r_icmp_le C (pt := 170) (pc' := 162) at_159 (by decide) (by decide) rfl ?_ ?_
            · intro q5
              have q5' : ¬ 7 < b := fun z => q5 ((i32_lt (a := 7) (by decide) (by omega)).mpr z)
              refine r_lload C (pc' := 172) at_170 rfl rfl ?_
              refine r_ldc2J C (pc' := 175) at_172 rfl (w77 hw) ?_
              refine r_lmul C (pc' := 176) at_175 rfl ?_
              refine r_iload C (pc' := 178) at_176 rfl rfl ?_
              refine r_i2l C (pc' := 179) at_178 rfl ?_
              refine r_ladd C (pc' := 180) at_179 rfl ?_
              refine r_lstore C (pc' := 182) (Ls' := #[.val (.long xx), .second, .val (.int y), .val (.int z), .val (.int mode), .val (.long (i64 a)), .second, .val (.int (i32 b)), .val (.int (i32 d)), .val (.int (i32 g)), .val (.ref ar), .val (.long (((i64 a) * (10 : Int64)) + ((i32 b).toInt64))), .second]) at_180 rfl rfl ?_
              refine r_new C (pc' := 185) at_182 rfl (w78 hw) (w5 hw) (w4 hw) (by decide) (by decide) ?_
              intro h5 s gs E5 Es D5
              have Fv : Fld Z h5 s "java/lang/String" "value" "[B" (.null) := D5 (Or.inr (w7 hw)) (ty := (.array .byte)) (by decide)
              have Fc : Fld Z h5 s "java/lang/String" "coder" "B" (.int 0) := D5 (Or.inr (w8 hw)) (ty := .byte) (by decide)
              have x_h5 := E5.1
              replace ol := ol.ext E5
              refine r_dup C (pc' := 186) at_185 rfl rfl ?_
              refine r_aload C (pc' := 188) at_186 rfl rfl rfl ?_
              refine r_callI C (pc' := 191) (argsL := [.ref ar]) (c_initC l Z a0 hw n0 h5 cc fv ss ol (by omega) s ar k (own_digs d a b) (by omega) Es _ _ Fv Fc (A5.ext E5) (fun c hc => by have := hok c hc; omega) (show (20 : Nat) ≠ 0 by decide) (Nat.le_refl 20)) at_188 rfl (w79 hw) (w80 hw) (w4 hw) (w81 hw) rfl (by decide) pd16 (st := [.ref s]) rfl rfl rfl (W := 1) (Nat.le_of_eq rfl) (by decide) (by decide) (by decide) (by decide) (cells' := 3) (slots' := 44) rfl rfl ?_
              rintro _ h6 ⟨rfl, K6, bb, kb, S6, gb⟩
              show Run _ _ _ _ _ h6 _ _ 191 #[.val (.long xx), .second, .val (.int y), .val (.int z), .val (.int mode), .val (.long (i64 a)), .second, .val (.int (i32 b)), .val (.int (i32 d)), .val (.int (i32 g)), .val (.ref ar), .val (.long (((i64 a) * (10 : Int64)) + ((i32 b).toInt64))), .second] [.ref s]
              replace ol := ol.keep K6 (by simp; omega)
              have x6 := K6.1
              refine r_callS C (pc' := 194) (argsL := [.ref s]) (c_parse l Z a0 hw n0 h6 cc fv ss ol s bb kb _ S6 hok) at_191 rfl (w11 hw) (w12 hw) (w13 hw) (w14 hw) (by decide) pd17 (st := []) rfl rfl rfl (W := 0) (Nat.le_of_eq rfl) (by decide) (by decide) (by decide) (by decide) (cells' := 3) (slots' := 44) rfl rfl ?_
              rintro _ _ ⟨rfl, rfl⟩
              show Run _ _ _ _ _ _ _ _ 194 #[.val (.long xx), .second, .val (.int y), .val (.int z), .val (.int mode), .val (.long (i64 a)), .second, .val (.int (i32 b)), .val (.int (i32 d)), .val (.int (i32 g)), .val (.ref ar), .val (.long (((i64 a) * (10 : Int64)) + ((i32 b).toInt64))), .second] [.long (i64 (own_pn (own_digs d a b) 0))]
              refine r_lload C (pc' := 196) at_194 rfl rfl ?_
              refine r_lcmp_ne C (pt := 204) (pc' := 200) at_196 at_197 (by decide) (by decide) rfl ?_ ?_
              · intro q9
                exact absurd (own_law_val hd hb ha d0 (by omega)) q9
              · intro q9
                refine r_iconst C (pc' := 201) (v := 1) at_200 rfl rfl ?_
                refine r_goto C (pc' := 205) at_201 (by decide) (by decide) ?_
                exact r_zreturn C at_205 rfl (by decide) (by decide) (by omega) (fun _ _ => rfl)
            · intro q5
              have q5' : 7 < b := (i32_lt (a := 7) (by decide) (by omega)).mp q5
              refine r_ldc2J C (pc' := 165) at_162 rfl (w0 hw) ?_
              refine r_lstore C (pc' := 167) (Ls' := #[.val (.long xx), .second, .val (.int y), .val (.int z), .val (.int mode), .val (.long (i64 a)), .second, .val (.int (i32 b)), .val (.int (i32 d)), .val (.int (i32 g)), .val (.ref ar), .val (.long (9223372036854775807 : Int64)), .second]) at_165 rfl rfl ?_
              refine r_goto C (pc' := 182) at_167 (by decide) (by decide) ?_
              refine r_new C (pc' := 185) at_182 rfl (w78 hw) (w5 hw) (w4 hw) (by decide) (by decide) ?_
              intro h5 s gs E5 Es D5
              have Fv : Fld Z h5 s "java/lang/String" "value" "[B" (.null) := D5 (Or.inr (w7 hw)) (ty := (.array .byte)) (by decide)
              have Fc : Fld Z h5 s "java/lang/String" "coder" "B" (.int 0) := D5 (Or.inr (w8 hw)) (ty := .byte) (by decide)
              have x_h5 := E5.1
              replace ol := ol.ext E5
              refine r_dup C (pc' := 186) at_185 rfl rfl ?_
              refine r_aload C (pc' := 188) at_186 rfl rfl rfl ?_
              refine r_callI C (pc' := 191) (argsL := [.ref ar]) (c_initC l Z a0 hw n0 h5 cc fv ss ol (by omega) s ar k (own_digs d a b) (by omega) Es _ _ Fv Fc (A5.ext E5) (fun c hc => by have := hok c hc; omega) (show (20 : Nat) ≠ 0 by decide) (Nat.le_refl 20)) at_188 rfl (w79 hw) (w80 hw) (w4 hw) (w81 hw) rfl (by decide) pd16 (st := [.ref s]) rfl rfl rfl (W := 1) (Nat.le_of_eq rfl) (by decide) (by decide) (by decide) (by decide) (cells' := 3) (slots' := 44) rfl rfl ?_
              rintro _ h6 ⟨rfl, K6, bb, kb, S6, gb⟩
              show Run _ _ _ _ _ h6 _ _ 191 #[.val (.long xx), .second, .val (.int y), .val (.int z), .val (.int mode), .val (.long (i64 a)), .second, .val (.int (i32 b)), .val (.int (i32 d)), .val (.int (i32 g)), .val (.ref ar), .val (.long (9223372036854775807 : Int64)), .second] [.ref s]
              replace ol := ol.keep K6 (by simp; omega)
              have x6 := K6.1
              refine r_callS C (pc' := 194) (argsL := [.ref s]) (c_parse l Z a0 hw n0 h6 cc fv ss ol s bb kb _ S6 hok) at_191 rfl (w11 hw) (w12 hw) (w13 hw) (w14 hw) (by decide) pd17 (st := []) rfl rfl rfl (W := 0) (Nat.le_of_eq rfl) (by decide) (by decide) (by decide) (by decide) (cells' := 3) (slots' := 44) rfl rfl ?_
              rintro _ _ ⟨rfl, rfl⟩
              show Run _ _ _ _ _ _ _ _ 194 #[.val (.long xx), .second, .val (.int y), .val (.int z), .val (.int mode), .val (.long (i64 a)), .second, .val (.int (i32 b)), .val (.int (i32 d)), .val (.int (i32 g)), .val (.ref ar), .val (.long (9223372036854775807 : Int64)), .second] [.long (i64 (own_pn (own_digs d a b) 0))]
              refine r_lload C (pc' := 196) at_194 rfl rfl ?_
              refine r_lcmp_ne C (pt := 204) (pc' := 200) at_196 at_197 (by decide) (by decide) rfl ?_ ?_
              · intro q9
                exact absurd (own_law_max hd hb ha (by omega)) q9
              · intro q9
                refine r_iconst C (pc' := 201) (v := 1) at_200 rfl rfl ?_
                refine r_goto C (pc' := 205) at_201 (by decide) (by decide) ?_
                exact r_zreturn C at_205 rfl (by decide) (by decide) (by omega) (fun _ _ => rfl)
      · intro q2
        have d0 : d ≠ 0 := fun z => q2 (by rw [z]; rfl)
        refine r_ldc2J C (pc' := 132) at_129 rfl (w0 hw) ?_
        refine r_lstore C (pc' := 134) (Ls' := #[.val (.long xx), .second, .val (.int y), .val (.int z), .val (.int mode), .val (.long (i64 a)), .second, .val (.int (i32 b)), .val (.int (i32 d)), .val (.int (i32 g)), .val (.ref ar), .val (.long (9223372036854775807 : Int64)), .second]) at_132 rfl rfl ?_
        refine r_goto C (pc' := 182) at_134 (by decide) (by decide) ?_
        refine r_new C (pc' := 185) at_182 rfl (w78 hw) (w5 hw) (w4 hw) (by decide) (by decide) ?_
        intro h5 s gs E5 Es D5
        have Fv : Fld Z h5 s "java/lang/String" "value" "[B" (.null) := D5 (Or.inr (w7 hw)) (ty := (.array .byte)) (by decide)
        have Fc : Fld Z h5 s "java/lang/String" "coder" "B" (.int 0) := D5 (Or.inr (w8 hw)) (ty := .byte) (by decide)
        have x_h5 := E5.1
        replace ol := ol.ext E5
        refine r_dup C (pc' := 186) at_185 rfl rfl ?_
        refine r_aload C (pc' := 188) at_186 rfl rfl rfl ?_
        refine r_callI C (pc' := 191) (argsL := [.ref ar]) (c_initC l Z a0 hw n0 h5 cc fv ss ol (by omega) s ar k (own_digs d a b) (by omega) Es _ _ Fv Fc (A5.ext E5) (fun c hc => by have := hok c hc; omega) (show (20 : Nat) ≠ 0 by decide) (Nat.le_refl 20)) at_188 rfl (w79 hw) (w80 hw) (w4 hw) (w81 hw) rfl (by decide) pd16 (st := [.ref s]) rfl rfl rfl (W := 1) (Nat.le_of_eq rfl) (by decide) (by decide) (by decide) (by decide) (cells' := 3) (slots' := 44) rfl rfl ?_
        rintro _ h6 ⟨rfl, K6, bb, kb, S6, gb⟩
        show Run _ _ _ _ _ h6 _ _ 191 #[.val (.long xx), .second, .val (.int y), .val (.int z), .val (.int mode), .val (.long (i64 a)), .second, .val (.int (i32 b)), .val (.int (i32 d)), .val (.int (i32 g)), .val (.ref ar), .val (.long (9223372036854775807 : Int64)), .second] [.ref s]
        replace ol := ol.keep K6 (by simp; omega)
        have x6 := K6.1
        refine r_callS C (pc' := 194) (argsL := [.ref s]) (c_parse l Z a0 hw n0 h6 cc fv ss ol s bb kb _ S6 hok) at_191 rfl (w11 hw) (w12 hw) (w13 hw) (w14 hw) (by decide) pd17 (st := []) rfl rfl rfl (W := 0) (Nat.le_of_eq rfl) (by decide) (by decide) (by decide) (by decide) (cells' := 3) (slots' := 44) rfl rfl ?_
        rintro _ _ ⟨rfl, rfl⟩
        show Run _ _ _ _ _ _ _ _ 194 #[.val (.long xx), .second, .val (.int y), .val (.int z), .val (.int mode), .val (.long (i64 a)), .second, .val (.int (i32 b)), .val (.int (i32 d)), .val (.int (i32 g)), .val (.ref ar), .val (.long (9223372036854775807 : Int64)), .second] [.long (i64 (own_pn (own_digs d a b) 0))]
        refine r_lload C (pc' := 196) at_194 rfl rfl ?_
        refine r_lcmp_ne C (pt := 204) (pc' := 200) at_196 at_197 (by decide) (by decide) rfl ?_ ?_
        · intro q9
          exact absurd (own_law_max hd hb ha (by omega)) q9
        · intro q9
          refine r_iconst C (pc' := 201) (v := 1) at_200 rfl rfl ?_
          refine r_goto C (pc' := 205) at_201 (by decide) (by decide) ?_
          exact r_zreturn C at_205 rfl (by decide) (by decide) (by omega) (fun _ _ => rfl)
    · intro q1
      refine r_bipush C (pc' := 67) (v := (48)) at_65 rfl rfl ?_
      refine r_iload C (pc' := 69) at_67 rfl rfl ?_
      refine r_iadd C (pc' := 70) at_69 rfl ?_
      refine r_i2c C (pc' := 71) at_70 rfl ?_
      rw [show (48 : Int32) + i32 b = i32 (48 + b) from i32_add 48 b, own_ch (by omega)]
      refine r_callS C (pc' := 74) (argsL := [.int (i32 (48 + b))]) (c_valueOfC l Z a0 hw n0 h0 cc fv ss ol hn0 (48 + b) (by omega)) at_71 rfl (w28 hw) (w29 hw) (w4 hw) (w30 hw) (by decide) pd18 (st := []) rfl rfl rfl (W := 0) (Nat.le_of_eq rfl) (by decide) (by decide) (by decide) (by decide) (cells' := 2) (slots' := 5) rfl rfl ?_
      rintro _ h1 ⟨s, bb, kb, rfl, K1, S1, g1, g2⟩
      show Run _ _ _ _ _ h1 _ _ 74 #[.val (.long xx), .second, .val (.int y), .val (.int z), .val (.int mode), .val (.long (i64 a)), .second, .val (.int (i32 b)), .val (.int (i32 d)), .val (.int (i32 g)), .unset, .unset, .unset] [.ref s]
      replace ol := ol.keep K1 all0
      have x6 := K1.1
      refine r_callS C (pc' := 77) (argsL := [.ref s]) (c_parse l Z a0 hw n0 h1 cc fv ss ol s bb kb _ S1 (by intro c hc; rw [List.mem_singleton] at hc; omega)) at_74 rfl (w11 hw) (w12 hw) (w13 hw) (w14 hw) (by decide) pd17 (st := []) rfl rfl rfl (W := 0) (Nat.le_of_eq rfl) (by decide) (by decide) (by decide) (by decide) (cells' := 2) (slots' := 5) rfl rfl ?_
      rintro _ _ ⟨rfl, rfl⟩
      show Run _ _ _ _ _ _ _ _ 77 #[.val (.long xx), .second, .val (.int y), .val (.int z), .val (.int mode), .val (.long (i64 a)), .second, .val (.int (i32 b)), .val (.int (i32 d)), .val (.int (i32 g)), .unset, .unset, .unset] [.long (i64 (own_pn [48 + b] 0))]
      refine r_iload C (pc' := 79) at_77 rfl rfl ?_
      refine r_i2l C (pc' := 80) at_79 rfl ?_
      refine r_lcmp_ne C (pt := 88) (pc' := 84) at_80 at_81 (by decide) (by decide) rfl ?_ ?_
      · intro q9
        exact absurd (own_law_one hb) q9
      · intro q9
        refine r_iconst C (pc' := 85) (v := 1) at_84 rfl rfl ?_
        refine r_goto C (pc' := 89) at_85 (by decide) (by decide) ?_
        exact r_zreturn C at_89 rfl (by decide) (by decide) (by omega) (fun _ _ => rfl)
  · intro q
    refine r_ldcS (n := 0) (bs := []) (pc' := 45) B D (by omega) at_43 rfl (w3 hw) wS ol.2.2 hV (by simp) held hcw ⟨by decide, by decide⟩ (by decide) (by decide) (by decide) (by decide) (by decide) ?_
    intro vm1 k1 h1 s bb kb D zk1 E1 S1 I1 L1 _
    have E1x := E1.1
    replace C := B.ctx0 D
    replace ol := ol.ext E1
    refine Run.touch ?_
    replace C := B.ctx D
    refine r_callS C (pc' := 48) (argsL := [.ref s]) (c_parse l Z a0 hw n0 h1 cc fv ss ol s bb kb [] S1 (by simp)) at_45 rfl (w11 hw) (w12 hw) (w13 hw) (w14 hw) (by decide) pd17 (st := []) rfl rfl rfl (W := 0) (Nat.le_of_eq rfl) (by decide) (by decide) (by decide) (by decide) (cells' := 2) (slots' := 4) rfl rfl ?_
    rintro _ _ ⟨rfl, rfl⟩
    show Run _ _ _ _ _ _ _ _ 48 #[.val (.long xx), .second, .val (.int y), .val (.int z), .val (.int mode), .val (.long (i64 a)), .second, .val (.int (i32 b)), .val (.int (i32 d)), .val (.int (i32 g)), .unset, .unset, .unset] [.long (i64 (own_pn [] 0))]
    refine r_lconst C (pc' := 49) (v := 0) at_48 rfl rfl ?_
    refine r_lcmp_ne C (pt := 57) (pc' := 53) at_49 at_50 (by decide) (by decide) rfl ?_ ?_
    · intro q9
      exact absurd (rfl) q9
    · intro q9
      refine r_iconst C (pc' := 54) (v := 1) at_53 rfl rfl ?_
      refine r_goto C (pc' := 58) at_54 (by decide) (by decide) ?_
      exact r_zreturn C at_58 rfl (by decide) (by decide) (by omega) (fun _ _ => rfl)
set_option maxRecDepth 65536 in
set_option maxHeartbeats 40000000 in
theorem comes_1 {Post : Tables → Env → Array Value → State → Outcome → State → Prop} (hpost : ∀ tb e args s v u, (limb_1_1.after args s (.returned v) u = true ∧ limb_1_2.after args s (.returned v) u = true ∧ True) → ReturnedEndW s (.returned v) u (Jvm.fieldLocs frame_1_writes args s ++ Jvm.arrayLocs frame_1_arrays args s ++ Jvm.staticLocs frame_1_statics s) 16 1216 → Post tb e args s (.returned v) u) :
    ArmFor flags0 classFile x code maxLocals ret World_1 tables_1 room_1 Calls_1 rest_1 Pre_1 Post := by
  intro l hfl _ _ p e ha hc hk s m args below hf hA hF happ hP
  obtain ⟨hcalls, hrest, hpre⟩ := hP
  obtain ⟨-, -, -, hnamed, -, -, -, hat⟩ := (Spec.applies_iff hf).mp happ
  obtain ⟨hg, hn⟩ := and_e (Cond.before_iff.mp (show (Jvm.Cond.and given_1 narrow_1).before args s = true from hpre))
  obtain ⟨h1, g0⟩ := and_e hg
  obtain ⟨k0, g1⟩ := and_e g0
  obtain ⟨k1, g2⟩ := and_e g1
  obtain ⟨k2, g3⟩ := and_e g2
  obtain ⟨w0, w1, w2, w3, rfl⟩ : ∃ w0 w1 w2 w3 : Value, args = #[w0, w1, w2, w3] := by
    have hs : args.size = 4 := by simpa [Cond.value, given_1] using h1
    obtain ⟨L⟩ := args
    match L, hs with
    | [w0, w1, w2, w3], _ => exact ⟨w0, w1, w2, w3, rfl⟩
  have hw := fun d (hd : d ∈ tables_1) => atoms_spec (ws := Jvm.Cond.code x code maxLocals ret :: tables_1) hat d (List.mem_cons_of_mem _ hd)
  obtain ⟨hsets, hown0⟩ := atoms_of _ (rest_1_c_eq ▸ (show rest_1_c.before _ s = true from hrest))
  have hfit : Fit s := fun {y c} hc i hi => by
    obtain ⟨ha, rfl⟩ := Array.getElem?_eq_some_iff.mp hc
    have q := List.all_eq_true.mp ((Array.all_eq_true_iff_forall_mem.mp hF) _ (Array.getElem_mem ha)) i (List.mem_range.mpr hi)
    simpa [Array.getElem?_eq_getElem hi] using q
  obtain ⟨i0, e0⟩ := isL_v k0
  obtain rfl : w0 = (.long i0) := Option.some.inj e0
  obtain ⟨i1, e1⟩ := is_v k1
  obtain rfl : w1 = (.int i1) := Option.some.inj e1
  obtain ⟨i2, e2⟩ := is_v k2
  obtain rfl : w2 = (.int i2) := Option.some.inj e2
  obtain ⟨i3, e3⟩ := is_v g3
  obtain rfl : w3 = (.int i3) := Option.some.inj e3
  obtain ⟨cc, fv, ss⟩ := own_ss hsets
  obtain ⟨n, o, h1, h2, h3, _, L, rfl, ⟨rfl, N⟩, hq⟩ := rm0 l s _ hw s.heap.size s.heap i0 i1 i2 i3 cc fv ss (Old.start s) (Nat.le_refl _) (hcalls.1 _ (List.mem_of_getElem? (i := 0) rfl)) (hsets _ (List.mem_of_getElem? (i := 2) rfl)) p e ha hc hk s m _ below hf ((Spec.applies_iff_loose hf).mp happ).1 ⟨rfl, State.Warmed39.refl s, rfl, IB.start⟩ trivial
  refine ⟨n, _, h1, h2, h3, hpost _ _ _ _ _ _ ⟨Cond.after_iff.mpr rfl, Cond.after_iff.mpr (eq_i res_at (Term.int_eval (1)) rfl), trivial⟩ ⟨hq.1, hq.2.1, hq.2.2.1, (hq.2.2.2.sift fun y hy => Or.inr (N y hy)).mono (by decide) (by decide)⟩⟩
theorem main_1_1 : Claimed_1_1 := comes_1 fun _ _ _ _ _ _ h hF => ⟨h.1, hF⟩
theorem main_1_2 : Claimed_1_2 := comes_1 fun _ _ _ _ _ _ h hF => ⟨h.2.1, hF⟩
end Jvm.Pilot.@@N@@
namespace Jvm.Pilot.@@N@@
open Jvm Jvm.ClassFile Sem Op Lib Jvm.Free Jvm.Stand Jvm.Pilot.@@N@@.Jvm.D
/-! MADE BY PROGRAM (witnessworld.py) out of the Statement's table words and the real class files: 21 classes; the members and pool entries that the words name. The judged class is class 1, her method 1. -/
namespace start1
open Jvm.ClassFile
def u (s : String) : CpInfo := .utf8 (stringToUtf16 s)
/-- a pool by its gaps: so many unusable entries, then the entry; so many at the end -/
def gap : Nat → List CpInfo → List CpInfo
  | 0, r => r
  | n + 1, r => .unusable :: gap n r
def poolList (es : List (Nat × CpInfo)) (last : Nat) : List CpInfo := es.foldr (fun e r => gap e.1 (e.2 :: r)) (gap last [])
def pool (es : List (Nat × CpInfo)) (last : Nat) : Array CpInfo := ⟨poolList es last⟩
def fileOf (pool : Array CpInfo) (this : Nat) (attrs : Array Attribute := #[]) (ms : Array MethodInfo := #[]) (fl : Nat := 33) (sup : Nat := 0) (ifs : Array Nat := #[]) (fds : Array FieldInfo := #[]) : ClassFile where
  minorVersion := 0
  majorVersion := 65
  constantPool := pool
  accessFlags := fl
  thisClass := this
  superClass := sup
  interfaces := ifs
  fields := fds
  methods := ms
  attributes := attrs
def plain (name : String) (sup : Option ClassId) : Class where
  name := name
  kind := .ordinary
  loader := none
  accessFlags := 33
  super := sup
  interfaces := #[]
  cf := none
  fields := #[]
  methods := #[]
  instanceTypes := #[]
  staticTypes := #[]
  resolved := #[]
  callSites := []
  init := .initialized
  statics := none
  mirror := none

def pool0 : Array CpInfo := pool [(5, u "<init>"), (0, u "()V"), (1, .class_ 10), (1, u "java/lang/Object")] 113

def k0c0 : Code := { maxStack := 0, maxLocals := 1, code := object_method_1_code, exceptionTable := #[], attributes := #[] }
def k0m0 : Method := { name := "<init>", desc := "()V", sig := { parameters := [], returnType := none }, accessFlags := 1, code := some k0c0 }
/-- java/lang/Object -/
def k0 : Class := { plain "java/lang/Object" none with
  accessFlags := 33
  interfaces := #[]
  cf := some (fileOf pool0 8 #[] #[{ accessFlags := 1, nameIndex := 5, descriptorIndex := 6, attributes := #[] }] 33 0 #[] #[])
  fields := #[]
  methods := #[k0m0]
  instanceTypes := #[]
  staticTypes := #[]
  resolved := Array.replicate 124 none
  statics := none }

def pool1 : Array CpInfo := pool [(2, .class_ 4), (1, u "java/lang/Object"), (0, u "<init>"), (0, u "()V"), (2, .long 9223372036854775807), (1, .long 1000000000000000000), (1, .integer 2147483647), (0, .string 15), (0, u ""), (0, .methodref 17 18), (0, .class_ 19), (0, .nameAndType 20 21), (0, u "com/example/wrange/wrange/Fragment"), (0, u "parseNumber"), (0, u "(Ljava/lang/String;)J"), (0, .methodref 23 24), (0, .class_ 25), (0, .nameAndType 26 27), (0, u "java/lang/String"), (0, u "valueOf"), (0, u "(C)Ljava/lang/String;"), (0, .methodref 29 30), (0, .class_ 31), (0, .nameAndType 32 33), (0, u "com/example/wrange/wrange/FragmentParseNumberPinLaw"), (0, u "fill"), (0, u "([CJ)V"), (0, .long 922337203685477580), (1, .long 10), (1, .methodref 23 39), (0, .nameAndType 5 40), (0, u "([C)V"), (0, .methodref 29 42), (0, .nameAndType 43 44), (0, u "digit"), (0, u "(J)C"), (2, u "law"), (0, u "(JIII)Z")] 5

def k1m0 : Method := { name := "<init>", desc := "()V", sig := { parameters := [], returnType := none }, accessFlags := 2, code := none }
def k1c1 : Code := { maxStack := 4, maxLocals := 13, code := code, exceptionTable := #[], attributes := #[] }
def k1m1 : Method := { name := "law", desc := "(JIII)Z", sig := { parameters := [.long, .int, .int, .int], returnType := some .boolean }, accessFlags := 9, code := some k1c1 }
def k1c2 : Code := { maxStack := 5, maxLocals := 2, code := method_3_code, exceptionTable := #[], attributes := #[] }
def k1m2 : Method := { name := "digit", desc := "(J)C", sig := { parameters := [.long], returnType := some .char }, accessFlags := 10, code := some k1c2 }
def k1c3 : Code := { maxStack := 4, maxLocals := 5, code := method_4_code, exceptionTable := #[], attributes := #[] }
def k1m3 : Method := { name := "fill", desc := "([CJ)V", sig := { parameters := [(.array .char), .long], returnType := none }, accessFlags := 10, code := some k1c3 }
/-- com/example/wrange/wrange/FragmentParseNumberPinLaw -/
def k1 : Class := { plain "com/example/wrange/wrange/FragmentParseNumberPinLaw" (some 0) with
  accessFlags := 49
  interfaces := #[]
  cf := some (fileOf pool1 29 #[] #[{ accessFlags := 2, nameIndex := 5, descriptorIndex := 6, attributes := #[] }, { accessFlags := 9, nameIndex := 47, descriptorIndex := 48, attributes := #[] }, { accessFlags := 10, nameIndex := 43, descriptorIndex := 44, attributes := #[] }, { accessFlags := 10, nameIndex := 32, descriptorIndex := 33, attributes := #[] }] 49 2 #[] #[])
  fields := #[]
  methods := #[k1m0, k1m1, k1m2, k1m3]
  instanceTypes := #[]
  staticTypes := #[]
  resolved := Array.replicate 54 none
  statics := none }

def pool2 : Array CpInfo := pool [(1, .class_ 2), (0, u "java/io/Serializable"), (0, .class_ 4), (0, u "java/lang/Object")] 2

/-- java/io/Serializable -/
def k2 : Class := { plain "java/io/Serializable" (some 0) with
  accessFlags := 1537
  interfaces := #[]
  cf := some (fileOf pool2 1 #[] #[] 1537 3 #[] #[])
  fields := #[]
  methods := #[]
  instanceTypes := #[]
  staticTypes := #[]
  resolved := Array.replicate 7 none
  statics := none }

def pool3 : Array CpInfo := pool [(1, .class_ 2), (0, u "java/lang/Comparable"), (0, .class_ 4), (0, u "java/lang/Object")] 7

/-- java/lang/Comparable -/
def k3 : Class := { plain "java/lang/Comparable" (some 0) with
  accessFlags := 1537
  interfaces := #[]
  cf := some (fileOf pool3 1 #[] #[] 1537 3 #[] #[])
  fields := #[]
  methods := #[]
  instanceTypes := #[]
  staticTypes := #[]
  resolved := Array.replicate 12 none
  statics := none }

def pool4 : Array CpInfo := pool [(2, .class_ 4), (1, u "java/lang/CharSequence"), (42, .class_ 48), (0, u "java/lang/CharSequence$1CodePointIterator"), (10, .class_ 60), (0, u "java/lang/CharSequence$1CharIterator"), (5, .class_ 67), (0, u "java/lang/Object")] 63

/-- java/lang/CharSequence -/
def k4 : Class := { plain "java/lang/CharSequence" (some 0) with
  accessFlags := 1537
  interfaces := #[]
  cf := some (fileOf pool4 2 #[.nestMembers #[47, 59]] #[] 1537 66 #[] #[])
  fields := #[]
  methods := #[]
  instanceTypes := #[]
  staticTypes := #[]
  resolved := Array.replicate 131 none
  statics := none }

def pool5 : Array CpInfo := pool [(1, .class_ 2), (0, u "java/lang/constant/Constable"), (0, .class_ 4), (0, u "java/lang/Object")] 6

/-- java/lang/constant/Constable -/
def k5 : Class := { plain "java/lang/constant/Constable" (some 0) with
  accessFlags := 1537
  interfaces := #[]
  cf := some (fileOf pool5 1 #[] #[] 1537 3 #[] #[])
  fields := #[]
  methods := #[]
  instanceTypes := #[]
  staticTypes := #[]
  resolved := Array.replicate 11 none
  statics := none }

def pool6 : Array CpInfo := pool [(1, .class_ 2), (0, u "java/lang/constant/ConstantDesc"), (0, .class_ 4), (0, u "java/lang/Object")] 32

/-- java/lang/constant/ConstantDesc -/
def k6 : Class := { plain "java/lang/constant/ConstantDesc" (some 0) with
  accessFlags := 1537
  interfaces := #[]
  cf := some (fileOf pool6 1 #[] #[] 1537 3 #[] #[])
  fields := #[]
  methods := #[]
  instanceTypes := #[]
  staticTypes := #[]
  resolved := Array.replicate 37 none
  statics := none }

def pool7 : Array CpInfo := pool [(1, .methodref 2 3), (0, .class_ 4), (0, .nameAndType 5 6), (0, u "java/lang/Object"), (0, u "<init>"), (0, u "()V"), (2, .fieldref 10 11), (0, .class_ 12), (0, .nameAndType 13 14), (0, u "java/lang/String"), (0, u "value"), (0, u "[B"), (0, .fieldref 10 16), (0, .nameAndType 17 18), (0, u "coder"), (0, u "B"), (2, u "hash"), (0, u "I"), (2, u "hashIsZero"), (0, u "Z"), (0, .methodref 10 28), (0, .nameAndType 5 29), (0, u "([CIILjava/lang/Void;)V"), (8, .fieldref 10 39), (0, .nameAndType 40 26), (0, u "COMPACT_STRINGS"), (1, .class_ 44), (1, u "java/lang/StringUTF16"), (0, u "compress"), (1, .methodref 42 48), (0, .nameAndType 49 50), (0, u "coderFromArrayLen"), (0, u "([BI)B"), (2, u "toBytes"), (53, .class_ 109), (1, u "java/lang/StringLatin1"), (32, u "()Z"), (34, .methodref 42 178), (0, .nameAndType 45 179), (0, u "([CII)[B"), (29, .methodref 10 210), (0, .nameAndType 5 211), (0, u "([BB)V"), (122, u "()I"), (0, .methodref 10 336), (0, .nameAndType 17 337), (0, u "()B"), (25, u "([BI)C"), (5, u "(C)Z"), (21, u "(II)V"), (35, u "(I)C"), (64, .methodref 10 493), (0, .nameAndType 494 142), (0, u "isLatin1"), (0, .methodref 107 496), (0, .nameAndType 497 363), (0, u "charAt"), (3, u "checkIndex"), (5, u "length"), (67, .class_ 576), (0, u "java/lang/CharSequence"), (22, u "CASE_INSENSITIVE_ORDER"), (0, u "Ljava/util/Comparator;"), (181, u "valueOf"), (0, u "(C)Ljava/lang/String;"), (226, u "([C)V"), (4, .methodref 107 1016), (0, .nameAndType 1017 369), (0, u "canEncode"), (0, .methodref 107 1019), (0, .nameAndType 53 1020), (0, u "(C)[B"), (32, .fieldref 1054 1055), (0, .class_ 1056), (0, .nameAndType 1057 1058), (0, u "jdk/internal/util/Preconditions"), (0, u "SIOOBE_FORMATTER"), (0, u "Ljava/util/function/BiFunction;"), (0, .methodref 1054 1060), (0, .nameAndType 501 1061), (0, u "(IILjava/util/function/BiFunction;)I"), (39, u "serialPersistentFields"), (0, u "[Ljava/io/ObjectStreamField;"), (0, .class_ 1104), (0, u "java/lang/String$CaseInsensitiveComparator"), (1, .class_ 1107), (0, u "java/io/Serializable"), (0, .class_ 1109), (0, u "java/lang/Comparable"), (0, .class_ 1111), (0, u "java/lang/constant/Constable"), (0, .class_ 1113), (0, u "java/lang/constant/ConstantDesc"), (2, u "serialVersionUID"), (0, u "J"), (3, u "REPL"), (0, u "C"), (2, u "LATIN1"), (1, u "UTF16")] 323

def k7m0 : Method := { name := "<init>", desc := "()V", sig := { parameters := [], returnType := none }, accessFlags := 1, code := none }
def k7c1 : Code := { maxStack := 5, maxLocals := 2, code := jdk_42_method_3_code, exceptionTable := #[], attributes := #[] }
def k7m1 : Method := { name := "<init>", desc := "([C)V", sig := { parameters := [(.array .char)], returnType := none }, accessFlags := 1, code := some k7c1 }
def k7c2 : Code := { maxStack := 2, maxLocals := 1, code := jdk_42_method_54_code, exceptionTable := #[], attributes := #[] }
def k7m2 : Method := { name := "length", desc := "()I", sig := { parameters := [], returnType := some .int }, accessFlags := 1, code := some k7c2 }
def k7c3 : Code := { maxStack := 2, maxLocals := 2, code := jdk_42_method_56_code, exceptionTable := #[], attributes := #[] }
def k7m3 : Method := { name := "charAt", desc := "(I)C", sig := { parameters := [.int], returnType := some .char }, accessFlags := 1, code := some k7c3 }
def k7c4 : Code := { maxStack := 4, maxLocals := 1, code := jdk_42_method_139_code, exceptionTable := #[], attributes := #[] }
def k7m4 : Method := { name := "valueOf", desc := "(C)Ljava/lang/String;", sig := { parameters := [.char], returnType := some (.object "java/lang/String") }, accessFlags := 9, code := some k7c4 }
def k7c5 : Code := { maxStack := 4, maxLocals := 6, code := jdk_42_method_149_code, exceptionTable := #[], attributes := #[] }
def k7m5 : Method := { name := "<init>", desc := "([CIILjava/lang/Void;)V", sig := { parameters := [(.array .char), .int, .int, (.object "java/lang/Void")], returnType := none }, accessFlags := 2, code := some k7c5 }
def k7c6 : Code := { maxStack := 2, maxLocals := 3, code := jdk_42_method_151_code, exceptionTable := #[], attributes := #[] }
def k7m6 : Method := { name := "<init>", desc := "([BB)V", sig := { parameters := [(.array .byte), .byte], returnType := none }, accessFlags := 0, code := some k7c6 }
def k7c7 : Code := { maxStack := 1, maxLocals := 1, code := jdk_42_method_152_code, exceptionTable := #[], attributes := #[] }
def k7m7 : Method := { name := "coder", desc := "()B", sig := { parameters := [], returnType := some .byte }, accessFlags := 0, code := some k7c7 }
def k7c8 : Code := { maxStack := 1, maxLocals := 1, code := jdk_42_method_154_code, exceptionTable := #[], attributes := #[] }
def k7m8 : Method := { name := "isLatin1", desc := "()Z", sig := { parameters := [], returnType := some .boolean }, accessFlags := 0, code := some k7c8 }
def k7c9 : Code := { maxStack := 3, maxLocals := 2, code := jdk_42_method_155_code, exceptionTable := #[], attributes := #[] }
def k7m9 : Method := { name := "checkIndex", desc := "(II)V", sig := { parameters := [.int, .int], returnType := none }, accessFlags := 8, code := some k7c9 }
/-- java/lang/String -/
def k7 : Class := { plain "java/lang/String" (some 0) with
  accessFlags := 49
  interfaces := #[2, 3, 4, 5, 6]
  cf := some (fileOf pool7 10 #[.nestMembers #[1103]] #[{ accessFlags := 1, nameIndex := 5, descriptorIndex := 6, attributes := #[] }, { accessFlags := 1, nameIndex := 5, descriptorIndex := 1010, attributes := #[] }, { accessFlags := 1, nameIndex := 507, descriptorIndex := 334, attributes := #[] }, { accessFlags := 1, nameIndex := 497, descriptorIndex := 427, attributes := #[] }, { accessFlags := 9, nameIndex := 782, descriptorIndex := 783, attributes := #[] }, { accessFlags := 2, nameIndex := 5, descriptorIndex := 29, attributes := #[] }, { accessFlags := 0, nameIndex := 5, descriptorIndex := 211, attributes := #[] }, { accessFlags := 0, nameIndex := 17, descriptorIndex := 337, attributes := #[] }, { accessFlags := 0, nameIndex := 494, descriptorIndex := 142, attributes := #[] }, { accessFlags := 8, nameIndex := 501, descriptorIndex := 391, attributes := #[] }] 49 2 #[1106, 1108, 575, 1110, 1112] #[{ accessFlags := 18, nameIndex := 13, descriptorIndex := 14, attributes := #[] }, { accessFlags := 18, nameIndex := 17, descriptorIndex := 18, attributes := #[] }, { accessFlags := 2, nameIndex := 21, descriptorIndex := 22, attributes := #[] }, { accessFlags := 2, nameIndex := 25, descriptorIndex := 26, attributes := #[] }, { accessFlags := 26, nameIndex := 1116, descriptorIndex := 1117, attributes := #[] }, { accessFlags := 24, nameIndex := 40, descriptorIndex := 26, attributes := #[] }, { accessFlags := 26, nameIndex := 1101, descriptorIndex := 1102, attributes := #[] }, { accessFlags := 26, nameIndex := 1121, descriptorIndex := 1122, attributes := #[] }, { accessFlags := 25, nameIndex := 599, descriptorIndex := 600, attributes := #[] }, { accessFlags := 24, nameIndex := 1125, descriptorIndex := 18, attributes := #[] }, { accessFlags := 24, nameIndex := 1127, descriptorIndex := 18, attributes := #[] }])
  fields := #[{ name := "value", type := (.array .byte), accessFlags := 18, slot := 0, constantValue := 0 }, { name := "coder", type := .byte, accessFlags := 18, slot := 1, constantValue := 0 }, { name := "hash", type := .int, accessFlags := 2, slot := 2, constantValue := 0 }, { name := "hashIsZero", type := .boolean, accessFlags := 2, slot := 3, constantValue := 0 }, { name := "serialVersionUID", type := .long, accessFlags := 26, slot := 0, constantValue := 0 }, { name := "COMPACT_STRINGS", type := .boolean, accessFlags := 24, slot := 1, constantValue := 0 }, { name := "serialPersistentFields", type := (.array (.object "java/io/ObjectStreamField")), accessFlags := 26, slot := 2, constantValue := 0 }, { name := "REPL", type := .char, accessFlags := 26, slot := 3, constantValue := 0 }, { name := "CASE_INSENSITIVE_ORDER", type := (.object "java/util/Comparator"), accessFlags := 25, slot := 4, constantValue := 0 }, { name := "LATIN1", type := .byte, accessFlags := 24, slot := 5, constantValue := 0 }, { name := "UTF16", type := .byte, accessFlags := 24, slot := 6, constantValue := 0 }]
  methods := #[k7m0, k7m1, k7m2, k7m3, k7m4, k7m5, k7m6, k7m7, k7m8, k7m9]
  instanceTypes := #[(.array .byte), .byte, .int, .boolean]
  staticTypes := #[.long, .boolean, (.array (.object "java/io/ObjectStreamField")), .char, (.object "java/util/Comparator"), .byte, .byte]
  resolved := Array.replicate 1451 none
  statics := some 0 }

def pool8 : Array CpInfo := pool [(2, .class_ 4), (1, u "java/lang/Object"), (0, u "<init>"), (0, u "()V"), (0, .class_ 8), (0, u "java/lang/Record")] 13

def k8m0 : Method := { name := "<init>", desc := "()V", sig := { parameters := [], returnType := none }, accessFlags := 4, code := none }
/-- java/lang/Record -/
def k8 : Class := { plain "java/lang/Record" (some 0) with
  accessFlags := 1057
  interfaces := #[]
  cf := some (fileOf pool8 7 #[] #[{ accessFlags := 4, nameIndex := 5, descriptorIndex := 6, attributes := #[] }] 1057 2 #[] #[])
  fields := #[]
  methods := #[k8m0]
  instanceTypes := #[]
  staticTypes := #[]
  resolved := Array.replicate 22 none
  statics := none }

def pool9 : Array CpInfo := pool [(3, .class_ 4), (0, u "com/example/wrange/wrange/Fragment"), (1, .class_ 8), (1, u "java/lang/Record"), (3, u "scheme"), (23, u "Lcom/example/wrange/wrange/Fragment$Scheme;"), (2, u "start"), (0, u "J"), (2, u "end"), (2, u "checks"), (0, u "Ljava/util/List;"), (9, .class_ 59), (1, u "java/lang/String"), (72, .long 9223372036854775807), (3, u "parseNumber"), (0, u "(Ljava/lang/String;)J"), (80, .class_ 220), (1, u "com/example/wrange/wrange/Fragment$Scheme"), (30, u "length"), (21, .methodref 57 274), (0, .nameAndType 251 275), (0, u "()I"), (28, .methodref 57 305), (0, .nameAndType 306 307), (0, u "charAt"), (0, u "(I)C"), (0, .long 10), (30, u "END_OF_TEXT"), (1, u "DIGITS"), (0, u "Ljava/lang/String;"), (0, u "HEX_DIGITS"), (0, u "LETTERS_AND_DIGITS"), (2, u "CHECK_NAME"), (0, u "CHARSET_NAME"), (0, u "MD5_DIGITS"), (0, u "I")] 88

def k9c0 : Code := { maxStack := 6, maxLocals := 5, code := prog_4_method_17_code, exceptionTable := #[], attributes := #[] }
def k9m0 : Method := { name := "parseNumber", desc := "(Ljava/lang/String;)J", sig := { parameters := [(.object "java/lang/String")], returnType := some .long }, accessFlags := 8, code := some k9c0 }
/-- com/example/wrange/wrange/Fragment -/
def k9 : Class := { plain "com/example/wrange/wrange/Fragment" (some 8) with
  accessFlags := 49
  interfaces := #[]
  cf := some (fileOf pool9 3 #[.nestMembers #[218]] #[{ accessFlags := 8, nameIndex := 136, descriptorIndex := 137, attributes := #[] }] 49 6 #[] #[{ accessFlags := 18, nameIndex := 12, descriptorIndex := 36, attributes := #[] }, { accessFlags := 18, nameIndex := 39, descriptorIndex := 40, attributes := #[] }, { accessFlags := 18, nameIndex := 43, descriptorIndex := 40, attributes := #[] }, { accessFlags := 18, nameIndex := 46, descriptorIndex := 47, attributes := #[] }, { accessFlags := 25, nameIndex := 339, descriptorIndex := 40, attributes := #[] }, { accessFlags := 26, nameIndex := 341, descriptorIndex := 342, attributes := #[] }, { accessFlags := 26, nameIndex := 343, descriptorIndex := 342, attributes := #[] }, { accessFlags := 26, nameIndex := 344, descriptorIndex := 342, attributes := #[] }, { accessFlags := 26, nameIndex := 347, descriptorIndex := 342, attributes := #[] }, { accessFlags := 26, nameIndex := 348, descriptorIndex := 342, attributes := #[] }, { accessFlags := 26, nameIndex := 349, descriptorIndex := 350, attributes := #[] }])
  fields := #[{ name := "scheme", type := (.object "com/example/wrange/wrange/Fragment$Scheme"), accessFlags := 18, slot := 0, constantValue := 0 }, { name := "start", type := .long, accessFlags := 18, slot := 1, constantValue := 0 }, { name := "end", type := .long, accessFlags := 18, slot := 2, constantValue := 0 }, { name := "checks", type := (.object "java/util/List"), accessFlags := 18, slot := 3, constantValue := 0 }, { name := "END_OF_TEXT", type := .long, accessFlags := 25, slot := 0, constantValue := 0 }, { name := "DIGITS", type := (.object "java/lang/String"), accessFlags := 26, slot := 1, constantValue := 0 }, { name := "HEX_DIGITS", type := (.object "java/lang/String"), accessFlags := 26, slot := 2, constantValue := 0 }, { name := "LETTERS_AND_DIGITS", type := (.object "java/lang/String"), accessFlags := 26, slot := 3, constantValue := 0 }, { name := "CHECK_NAME", type := (.object "java/lang/String"), accessFlags := 26, slot := 4, constantValue := 0 }, { name := "CHARSET_NAME", type := (.object "java/lang/String"), accessFlags := 26, slot := 5, constantValue := 0 }, { name := "MD5_DIGITS", type := .int, accessFlags := 26, slot := 6, constantValue := 0 }]
  methods := #[k9m0]
  instanceTypes := #[(.object "com/example/wrange/wrange/Fragment$Scheme"), .long, .long, (.object "java/util/List")]
  staticTypes := #[.long, (.object "java/lang/String"), (.object "java/lang/String"), (.object "java/lang/String"), (.object "java/lang/String"), (.object "java/lang/String"), .int]
  resolved := Array.replicate 439 none
  statics := none }

def pool10 : Array CpInfo := pool [(1, .class_ 2), (0, u "java/lang/String"), (1, .class_ 6), (1, u "java/lang/Object"), (0, u "<init>"), (0, u "()V"), (0, .methodref 1 10), (0, .nameAndType 11 12), (0, u "checkIndex"), (0, u "(II)V"), (1, .class_ 16), (1, u "java/lang/StringLatin1"), (36, u "([BI)C"), (36, u "canEncode"), (14, u "(C)Z"), (15, u "$assertionsDisabled"), (0, u "Z"), (98, .class_ 223), (1, u "java/lang/StringLatin1$LinesSpliterator"), (28, u "charAt"), (127, u "toBytes"), (1, u "(C)[B"), (7, .class_ 391), (0, u "java/lang/StringLatin1$CharsSpliterator")] 3

def k10m0 : Method := { name := "<init>", desc := "()V", sig := { parameters := [], returnType := none }, accessFlags := 0, code := none }
def k10c1 : Code := { maxStack := 2, maxLocals := 2, code := jdk_43_method_2_code, exceptionTable := #[], attributes := #[] }
def k10m1 : Method := { name := "charAt", desc := "([BI)C", sig := { parameters := [(.array .byte), .int], returnType := some .char }, accessFlags := 9, code := some k10c1 }
def k10c2 : Code := { maxStack := 2, maxLocals := 1, code := jdk_43_method_3_code, exceptionTable := #[], attributes := #[] }
def k10m2 : Method := { name := "canEncode", desc := "(C)Z", sig := { parameters := [.char], returnType := some .boolean }, accessFlags := 9, code := some k10c2 }
def k10c3 : Code := { maxStack := 4, maxLocals := 1, code := jdk_43_method_46_code, exceptionTable := #[], attributes := #[] }
def k10m3 : Method := { name := "toBytes", desc := "(C)[B", sig := { parameters := [.char], returnType := some (.array .byte) }, accessFlags := 9, code := some k10c3 }
/-- java/lang/StringLatin1 -/
def k10 : Class := { plain "java/lang/StringLatin1" (some 0) with
  accessFlags := 48
  interfaces := #[]
  cf := some (fileOf pool10 14 #[.nestMembers #[390, 221]] #[{ accessFlags := 0, nameIndex := 7, descriptorIndex := 8, attributes := #[] }, { accessFlags := 9, nameIndex := 252, descriptorIndex := 53, attributes := #[] }, { accessFlags := 9, nameIndex := 90, descriptorIndex := 105, attributes := #[] }, { accessFlags := 9, nameIndex := 380, descriptorIndex := 382, attributes := #[] }] 48 4 #[] #[{ accessFlags := 4120, nameIndex := 121, descriptorIndex := 122, attributes := #[] }])
  fields := #[{ name := "$assertionsDisabled", type := .boolean, accessFlags := 4120, slot := 0, constantValue := 0 }]
  methods := #[k10m0, k10m1, k10m2, k10m3]
  instanceTypes := #[]
  staticTypes := #[.boolean]
  resolved := Array.replicate 395 none
  statics := none }

def pool11 : Array CpInfo := pool [(2, .class_ 4), (1, u "java/lang/Object"), (0, u "<init>"), (0, u "()V"), (17, .class_ 26), (1, u "jdk/internal/util/Preconditions"), (6, u "checkIndex"), (21, .class_ 56), (0, u "jdk/internal/util/Preconditions$4"), (57, .class_ 115), (0, u "jdk/internal/util/Preconditions$1"), (7, u "SIOOBE_FORMATTER"), (0, u "Ljava/util/function/BiFunction;"), (0, .class_ 126), (0, u "jdk/internal/util/Preconditions$2"), (3, u "AIOOBE_FORMATTER"), (0, .class_ 132), (0, u "jdk/internal/util/Preconditions$3"), (3, u "IOOBE_FORMATTER"), (41, u "(IILjava/util/function/BiFunction;)I")] 15

def k11m0 : Method := { name := "<init>", desc := "()V", sig := { parameters := [], returnType := none }, accessFlags := 1, code := none }
def k11c1 : Code := { maxStack := 3, maxLocals := 3, code := jdk_41_method_11_code, exceptionTable := #[], attributes := #[] }
def k11m1 : Method := { name := "checkIndex", desc := "(IILjava/util/function/BiFunction;)I", sig := { parameters := [.int, .int, (.object "java/util/function/BiFunction")], returnType := some .int }, accessFlags := 9, code := some k11c1 }
/-- jdk/internal/util/Preconditions -/
def k11 : Class := { plain "jdk/internal/util/Preconditions" (some 0) with
  accessFlags := 33
  interfaces := #[]
  cf := some (fileOf pool11 24 #[.nestMembers #[55, 131, 125, 114]] #[{ accessFlags := 1, nameIndex := 5, descriptorIndex := 6, attributes := #[] }, { accessFlags := 9, nameIndex := 33, descriptorIndex := 178, attributes := #[] }] 33 2 #[] #[{ accessFlags := 25, nameIndex := 123, descriptorIndex := 124, attributes := #[] }, { accessFlags := 25, nameIndex := 130, descriptorIndex := 124, attributes := #[] }, { accessFlags := 25, nameIndex := 136, descriptorIndex := 124, attributes := #[] }])
  fields := #[{ name := "SIOOBE_FORMATTER", type := (.object "java/util/function/BiFunction"), accessFlags := 25, slot := 0, constantValue := 0 }, { name := "AIOOBE_FORMATTER", type := (.object "java/util/function/BiFunction"), accessFlags := 25, slot := 1, constantValue := 0 }, { name := "IOOBE_FORMATTER", type := (.object "java/util/function/BiFunction"), accessFlags := 25, slot := 2, constantValue := 0 }]
  methods := #[k11m0, k11m1]
  instanceTypes := #[]
  staticTypes := #[(.object "java/util/function/BiFunction"), (.object "java/util/function/BiFunction"), (.object "java/util/function/BiFunction")]
  resolved := Array.replicate 194 none
  statics := some 1 }

def pool12 : Array CpInfo := pool [(6, .class_ 8), (1, u "java/lang/Object"), (0, u "<init>"), (0, u "()V"), (1, .class_ 14), (1, u "java/lang/StringUTF16"), (31, u "$assertionsDisabled"), (0, u "Z"), (13, u "HI_BYTE_SHIFT"), (0, u "I"), (2, u "LO_BYTE_SHIFT"), (49, .methodref 12 116), (0, .nameAndType 117 118), (0, u "compress"), (0, u "([CI[BII)I"), (3, u "([CII)[B"), (138, u "coderFromArrayLen"), (0, u "([BI)B"), (106, .class_ 371), (1, u "java/lang/StringUTF16$LinesSpliterator"), (58, u "MAX_LENGTH"), (196, .class_ 628), (0, u "java/lang/StringUTF16$CodePointsSpliterator"), (0, .class_ 630), (0, u "java/lang/StringUTF16$CharsSpliterator")] 4

def k12m0 : Method := { name := "<init>", desc := "()V", sig := { parameters := [], returnType := none }, accessFlags := 0, code := none }
def k12c1 : Code := { maxStack := 2, maxLocals := 2, code := jdk_52_method_15_code, exceptionTable := #[], attributes := #[] }
def k12m1 : Method := { name := "coderFromArrayLen", desc := "([BI)B", sig := { parameters := [(.array .byte), .int], returnType := some .byte }, accessFlags := 8, code := some k12c1 }
def k12c2 : Code := { maxStack := 5, maxLocals := 6, code := jdk_52_method_16_code, exceptionTable := #[], attributes := #[] }
def k12m2 : Method := { name := "compress", desc := "([CII)[B", sig := { parameters := [(.array .char), .int, .int], returnType := some (.array .byte) }, accessFlags := 9, code := some k12c2 }
def k12c3 : Code := { maxStack := 3, maxLocals := 7, code := jdk_52_method_21_code, exceptionTable := #[], attributes := #[] }
def k12m3 : Method := { name := "compress", desc := "([CI[BII)I", sig := { parameters := [(.array .char), .int, (.array .byte), .int, .int], returnType := some .int }, accessFlags := 9, code := some k12c3 }
/-- java/lang/StringUTF16 -/
def k12 : Class := { plain "java/lang/StringUTF16" (some 0) with
  accessFlags := 48
  interfaces := #[]
  cf := some (fileOf pool12 12 #[.nestMembers #[627, 629, 369]] #[{ accessFlags := 0, nameIndex := 9, descriptorIndex := 10, attributes := #[] }, { accessFlags := 8, nameIndex := 261, descriptorIndex := 262, attributes := #[] }, { accessFlags := 9, nameIndex := 117, descriptorIndex := 122, attributes := #[] }, { accessFlags := 9, nameIndex := 117, descriptorIndex := 118, attributes := #[] }] 48 6 #[] #[{ accessFlags := 26, nameIndex := 61, descriptorIndex := 62, attributes := #[] }, { accessFlags := 26, nameIndex := 65, descriptorIndex := 62, attributes := #[] }, { accessFlags := 24, nameIndex := 430, descriptorIndex := 62, attributes := #[] }, { accessFlags := 4120, nameIndex := 46, descriptorIndex := 47, attributes := #[] }])
  fields := #[{ name := "HI_BYTE_SHIFT", type := .int, accessFlags := 26, slot := 0, constantValue := 0 }, { name := "LO_BYTE_SHIFT", type := .int, accessFlags := 26, slot := 1, constantValue := 0 }, { name := "MAX_LENGTH", type := .int, accessFlags := 24, slot := 2, constantValue := 0 }, { name := "$assertionsDisabled", type := .boolean, accessFlags := 4120, slot := 3, constantValue := 0 }]
  methods := #[k12m0, k12m1, k12m2, k12m3]
  instanceTypes := #[]
  staticTypes := #[.int, .int, .int, .boolean]
  resolved := Array.replicate 635 none
  statics := none }

def pool13 : Array CpInfo := pool [(9, u "<init>"), (6, .class_ 18), (1, u "java/lang/Object"), (0, u "()V"), (1, .class_ 23), (1, u "jdk/internal/util/ArraysSupport"), (0, u "LOG2_ARRAY_LONG_INDEX_SCALE"), (0, u "I"), (2, u "U"), (0, u "Ljdk/internal/misc/Unsafe;"), (8, u "BIG_ENDIAN"), (0, u "Z"), (8, u "LOG2_BYTE_BIT_SIZE"), (4, u "LOG2_ARRAY_INT_INDEX_SCALE"), (54, u "JLA"), (0, u "Ljdk/internal/access/JavaLangAccess;"), (11, u "LOG2_ARRAY_BOOLEAN_INDEX_SCALE"), (9, u "LOG2_ARRAY_BYTE_INDEX_SCALE"), (5, u "LOG2_ARRAY_CHAR_INDEX_SCALE"), (5, u "LOG2_ARRAY_SHORT_INDEX_SCALE"), (18, u "LOG2_ARRAY_FLOAT_INDEX_SCALE"), (24, u "LOG2_ARRAY_DOUBLE_INDEX_SCALE"), (89, u "T_BOOLEAN"), (2, u "T_CHAR"), (1, u "T_FLOAT"), (1, u "T_DOUBLE"), (1, u "T_BYTE"), (1, u "T_SHORT"), (1, u "T_INT"), (1, u "T_LONG"), (1, u "SOFT_MAX_ARRAY_LENGTH")] 83

def k13m0 : Method := { name := "<init>", desc := "()V", sig := { parameters := [], returnType := none }, accessFlags := 2, code := none }
/-- jdk/internal/util/ArraysSupport -/
def k13 : Class := { plain "jdk/internal/util/ArraysSupport" (some 0) with
  accessFlags := 33
  interfaces := #[]
  cf := some (fileOf pool13 21 #[] #[{ accessFlags := 2, nameIndex := 9, descriptorIndex := 19, attributes := #[] }] 33 16 #[] #[{ accessFlags := 24, nameIndex := 28, descriptorIndex := 29, attributes := #[] }, { accessFlags := 26, nameIndex := 38, descriptorIndex := 39, attributes := #[] }, { accessFlags := 25, nameIndex := 121, descriptorIndex := 25, attributes := #[] }, { accessFlags := 25, nameIndex := 131, descriptorIndex := 25, attributes := #[] }, { accessFlags := 25, nameIndex := 137, descriptorIndex := 25, attributes := #[] }, { accessFlags := 25, nameIndex := 143, descriptorIndex := 25, attributes := #[] }, { accessFlags := 25, nameIndex := 53, descriptorIndex := 25, attributes := #[] }, { accessFlags := 25, nameIndex := 24, descriptorIndex := 25, attributes := #[] }, { accessFlags := 25, nameIndex := 162, descriptorIndex := 25, attributes := #[] }, { accessFlags := 25, nameIndex := 187, descriptorIndex := 25, attributes := #[] }, { accessFlags := 26, nameIndex := 48, descriptorIndex := 25, attributes := #[] }, { accessFlags := 25, nameIndex := 277, descriptorIndex := 25, attributes := #[] }, { accessFlags := 25, nameIndex := 280, descriptorIndex := 25, attributes := #[] }, { accessFlags := 25, nameIndex := 282, descriptorIndex := 25, attributes := #[] }, { accessFlags := 25, nameIndex := 284, descriptorIndex := 25, attributes := #[] }, { accessFlags := 25, nameIndex := 286, descriptorIndex := 25, attributes := #[] }, { accessFlags := 25, nameIndex := 288, descriptorIndex := 25, attributes := #[] }, { accessFlags := 25, nameIndex := 290, descriptorIndex := 25, attributes := #[] }, { accessFlags := 25, nameIndex := 292, descriptorIndex := 25, attributes := #[] }, { accessFlags := 26, nameIndex := 108, descriptorIndex := 109, attributes := #[] }, { accessFlags := 25, nameIndex := 294, descriptorIndex := 25, attributes := #[] }])
  fields := #[{ name := "U", type := (.object "jdk/internal/misc/Unsafe"), accessFlags := 24, slot := 0, constantValue := 0 }, { name := "BIG_ENDIAN", type := .boolean, accessFlags := 26, slot := 1, constantValue := 0 }, { name := "LOG2_ARRAY_BOOLEAN_INDEX_SCALE", type := .int, accessFlags := 25, slot := 2, constantValue := 0 }, { name := "LOG2_ARRAY_BYTE_INDEX_SCALE", type := .int, accessFlags := 25, slot := 3, constantValue := 0 }, { name := "LOG2_ARRAY_CHAR_INDEX_SCALE", type := .int, accessFlags := 25, slot := 4, constantValue := 0 }, { name := "LOG2_ARRAY_SHORT_INDEX_SCALE", type := .int, accessFlags := 25, slot := 5, constantValue := 0 }, { name := "LOG2_ARRAY_INT_INDEX_SCALE", type := .int, accessFlags := 25, slot := 6, constantValue := 0 }, { name := "LOG2_ARRAY_LONG_INDEX_SCALE", type := .int, accessFlags := 25, slot := 7, constantValue := 0 }, { name := "LOG2_ARRAY_FLOAT_INDEX_SCALE", type := .int, accessFlags := 25, slot := 8, constantValue := 0 }, { name := "LOG2_ARRAY_DOUBLE_INDEX_SCALE", type := .int, accessFlags := 25, slot := 9, constantValue := 0 }, { name := "LOG2_BYTE_BIT_SIZE", type := .int, accessFlags := 26, slot := 10, constantValue := 0 }, { name := "T_BOOLEAN", type := .int, accessFlags := 25, slot := 11, constantValue := 0 }, { name := "T_CHAR", type := .int, accessFlags := 25, slot := 12, constantValue := 0 }, { name := "T_FLOAT", type := .int, accessFlags := 25, slot := 13, constantValue := 0 }, { name := "T_DOUBLE", type := .int, accessFlags := 25, slot := 14, constantValue := 0 }, { name := "T_BYTE", type := .int, accessFlags := 25, slot := 15, constantValue := 0 }, { name := "T_SHORT", type := .int, accessFlags := 25, slot := 16, constantValue := 0 }, { name := "T_INT", type := .int, accessFlags := 25, slot := 17, constantValue := 0 }, { name := "T_LONG", type := .int, accessFlags := 25, slot := 18, constantValue := 0 }, { name := "JLA", type := (.object "jdk/internal/access/JavaLangAccess"), accessFlags := 26, slot := 19, constantValue := 0 }, { name := "SOFT_MAX_ARRAY_LENGTH", type := .int, accessFlags := 25, slot := 20, constantValue := 0 }]
  methods := #[k13m0]
  instanceTypes := #[]
  staticTypes := #[(.object "jdk/internal/misc/Unsafe"), .boolean, .int, .int, .int, .int, .int, .int, .int, .int, .int, .int, .int, .int, .int, .int, .int, .int, .int, (.object "jdk/internal/access/JavaLangAccess"), .int]
  resolved := Array.replicate 378 none
  statics := none }

def pool14 : Array CpInfo := pool [(1, u "java/lang/Cloneable"), (0, .class_ 1), (0, u "java/lang/Object"), (0, .class_ 3)] 3

/-- java/lang/Cloneable -/
def k14 : Class := { plain "java/lang/Cloneable" (some 0) with
  accessFlags := 1537
  interfaces := #[]
  cf := some (fileOf pool14 2 #[] #[] 1537 4 #[] #[])
  fields := #[]
  methods := #[]
  instanceTypes := #[]
  staticTypes := #[]
  resolved := Array.replicate 8 none
  statics := none }

/-- the primitive byte -/
def k15 : Class := { plain "byte" none with kind := .primitive 'B', accessFlags := 0x411 }
/-- [B -/
def k16 : Class := { plain "[B" (some 0) with kind := .array 15 .byte, interfaces := #[14, 2], accessFlags := 1041 }

/-- the primitive char -/
def k17 : Class := { plain "char" none with kind := .primitive 'C', accessFlags := 0x411 }
/-- [C -/
def k18 : Class := { plain "[C" (some 0) with kind := .array 17 .char, interfaces := #[14, 2], accessFlags := 1041 }

/-- the primitive int -/
def k19 : Class := { plain "int" none with kind := .primitive 'I', accessFlags := 0x411 }
/-- [I -/
def k20 : Class := { plain "[I" (some 0) with kind := .array 19 .int, interfaces := #[14, 2], accessFlags := 1041 }

def heap : Heap := #[{ cls := 7, slots := #[.long 0, .int 1, .null, .int 0, .null, .int 0, .int 0], vm := .statics 7 },
  { cls := 11, slots := #[.null, .null, .null], vm := .statics 11 }]
def classes : Array Class := #[k0, k1, k2, k3, k4, k5, k6, k7, k8, k9, k10, k11, k12, k13, k14, k15, k16, k17, k18, k19, k20]
def interned : List (Array UInt16 × Addr) := []
def slotsUsed : Nat := 10
def theMethod : MethodId := ⟨1, 1⟩
def args0 : Array Value := #[.long 123456789, .int 5, .int 0, .int 2]
def aboutOver (below : List Frame) : State where
  vm := { classes := classes, interned := interned.toArray }
  heap := heap
  slotsUsed := slotsUsed
  threads := #[{ frames := .invoking theMethod args0 :: below }]
def below0 : List Frame := [.native { method := ⟨0, 0⟩, args := #[] }]
def about1 : State := aboutOver below0
def p0 : Program := .bare "" "" ""
def e0 : Env := launch0.env 0 0 0
theorem w_frames : about1.frames = Frame.invoking theMethod args0 :: below0 := rfl
set_option maxRecDepth 65536 in
theorem w_args : argsFit about1.vm theMethod args0 = true := by decide +kernel
set_option maxRecDepth 65536 in
theorem w_heap : heapFits about1 = true := by decide +kernel
set_option maxRecDepth 65536 in
theorem w_runnable : about1.curStatus? = some .runnable := by decide +kernel
set_option maxRecDepth 65536 in
theorem w_alone : about1.alone = true := by decide +kernel
set_option maxRecDepth 65536 in
theorem w_named : about1.methodNamed? x = some theMethod := by decide +kernel
set_option maxRecDepth 65536 in
theorem w_hears : about1.hears theMethod below0 = true := by decide +kernel
set_option maxRecDepth 65536 in
theorem w_ripe : about1.ripe theMethod args0 below0 = true := by decide +kernel
theorem w_running : about1.status = .running := rfl
set_option maxRecDepth 65536 in
theorem w_room : about1.hasRoom e0.platform room_1 = true :=
  launch0.hasRoom_least _ room_1 (by decide +kernel) (by decide +kernel) (by decide +kernel) (by decide +kernel) (by decide +kernel) (by decide +kernel)
theorem allAtoms_all (ts : List Jvm.Cond) (a : Array Jvm.Value) (st : Jvm.State) : (allAtoms ts).before a st = ts.all (fun c => c.before a st) := by
  induction ts with
  | nil => rfl
  | cons c t ih =>
    show (Jvm.Cond.and c (allAtoms t)).before a st = _
    rw [Jvm.Cond.before_and, ih, List.all_cons]
def words1 : List Jvm.Cond := Jvm.Cond.code x code maxLocals ret :: tables_1
/-- a 'code' word, met by the world's own term for the bytes: nothing is compared byte by byte -/
theorem code_word {y : MethodName} {bytes : ByteArray} {mx : Nat} {rt : Option FieldType} {a : Array Value} {s : State} {m : MethodId} {meth : Method} {c : Code} (h1 : s.methodNamed? y = some m) (h2 : s.vm.method? m = some meth) (h3 : meth.code = some c) (h4 : c.code = bytes)
    (h5 : (c.maxLocals == mx && c.exceptionTable.isEmpty && decide (c.maxStack ≤ mostOperands) && decide (meth.sig.returnType = rt) && !meth.locks && decide (parseMethodDescriptor y.desc = some meth.sig)) = true) : (Jvm.Cond.code y bytes mx rt).before a s = true := by
  simp only [Bool.and_eq_true, beq_iff_eq, Bool.not_eq_true', decide_eq_true_eq] at h5
  obtain ⟨⟨⟨⟨⟨g1, g2⟩, g3⟩, g4⟩, g5⟩, g6⟩ := h5
  simp [Cond.before, Cond.holds, Cond.value, h1, h2, h3, h4, g1, g2, g3, g4, g5, g6]
def isCode : Jvm.Cond → Bool
  | .code _ _ _ _ => true
  | _ => false
theorem all_split {L : List Jvm.Cond} {P : Jvm.Cond → Bool} (h1 : L.all (fun c => isCode c || P c) = true) (h2 : ∀ c ∈ L.filter isCode, P c = true) : L.all P = true := by
  refine List.all_eq_true.mpr fun c hc => ?_
  have h := List.all_eq_true.mp h1 c hc
  rcases Bool.eq_false_or_eq_true (isCode c) with hi | hi
  · exact h2 c (List.mem_filter.mpr ⟨hc, hi⟩)
  · simpa [hi] using h
set_option maxRecDepth 65536 in
theorem w_c0 : (Jvm.Cond.code x code maxLocals ret).before args0 about1 = true := code_word (m := ⟨1, 1⟩) (meth := k1m1) (c := k1c1) (by decide +kernel) rfl rfl rfl (by decide +kernel)
set_option maxRecDepth 65536 in
theorem w_c1 : (Jvm.Cond.code ({ cls := "com/example/wrange/wrange/Fragment", name := "parseNumber", desc := "(Ljava/lang/String;)J" } : Jvm.MethodName) prog_4_method_17_code (5 : Nat) (Option.some Jvm.ClassFile.FieldType.long)).before args0 about1 = true := code_word (m := ⟨9, 0⟩) (meth := k9m0) (c := k9c0) (by decide +kernel) rfl rfl rfl (by decide +kernel)
set_option maxRecDepth 65536 in
theorem w_c2 : (Jvm.Cond.code ({ cls := "java/lang/String", name := "length", desc := "()I" } : Jvm.MethodName) jdk_42_method_54_code (1 : Nat) (Option.some Jvm.ClassFile.FieldType.int)).before args0 about1 = true := code_word (m := ⟨7, 2⟩) (meth := k7m2) (c := k7c2) (by decide +kernel) rfl rfl rfl (by decide +kernel)
set_option maxRecDepth 65536 in
theorem w_c3 : (Jvm.Cond.code ({ cls := "java/lang/String", name := "coder", desc := "()B" } : Jvm.MethodName) jdk_42_method_152_code (1 : Nat) (Option.some Jvm.ClassFile.FieldType.byte)).before args0 about1 = true := code_word (m := ⟨7, 7⟩) (meth := k7m7) (c := k7c7) (by decide +kernel) rfl rfl rfl (by decide +kernel)
set_option maxRecDepth 65536 in
theorem w_c4 : (Jvm.Cond.code ({ cls := "java/lang/String", name := "valueOf", desc := "(C)Ljava/lang/String;" } : Jvm.MethodName) jdk_42_method_139_code (1 : Nat) (Option.some (Jvm.ClassFile.FieldType.object "java/lang/String"))).before args0 about1 = true := code_word (m := ⟨7, 4⟩) (meth := k7m4) (c := k7c4) (by decide +kernel) rfl rfl rfl (by decide +kernel)
set_option maxRecDepth 65536 in
theorem w_c5 : (Jvm.Cond.code ({ cls := "java/lang/StringLatin1", name := "canEncode", desc := "(C)Z" } : Jvm.MethodName) jdk_43_method_3_code (1 : Nat) (Option.some Jvm.ClassFile.FieldType.boolean)).before args0 about1 = true := code_word (m := ⟨10, 2⟩) (meth := k10m2) (c := k10c2) (by decide +kernel) rfl rfl rfl (by decide +kernel)
set_option maxRecDepth 65536 in
theorem w_c6 : (Jvm.Cond.code ({ cls := "java/lang/StringLatin1", name := "toBytes", desc := "(C)[B" } : Jvm.MethodName) jdk_43_method_46_code (1 : Nat) (Option.some (Jvm.ClassFile.FieldType.array Jvm.ClassFile.FieldType.byte))).before args0 about1 = true := code_word (m := ⟨10, 3⟩) (meth := k10m3) (c := k10c3) (by decide +kernel) rfl rfl rfl (by decide +kernel)
set_option maxRecDepth 65536 in
theorem w_c7 : (Jvm.Cond.code ({ cls := "java/lang/String", name := "<init>", desc := "([BB)V" } : Jvm.MethodName) jdk_42_method_151_code (3 : Nat) (Option.none : Option Jvm.ClassFile.FieldType)).before args0 about1 = true := code_word (m := ⟨7, 6⟩) (meth := k7m6) (c := k7c6) (by decide +kernel) rfl rfl rfl (by decide +kernel)
set_option maxRecDepth 65536 in
theorem w_c8 : (Jvm.Cond.code ({ cls := "java/lang/Object", name := "<init>", desc := "()V" } : Jvm.MethodName) object_method_1_code (1 : Nat) (Option.none : Option Jvm.ClassFile.FieldType)).before args0 about1 = true := code_word (m := ⟨0, 0⟩) (meth := k0m0) (c := k0c0) (by decide +kernel) rfl rfl rfl (by decide +kernel)
set_option maxRecDepth 65536 in
theorem w_c9 : (Jvm.Cond.code ({ cls := "java/lang/String", name := "charAt", desc := "(I)C" } : Jvm.MethodName) jdk_42_method_56_code (2 : Nat) (Option.some Jvm.ClassFile.FieldType.char)).before args0 about1 = true := code_word (m := ⟨7, 3⟩) (meth := k7m3) (c := k7c3) (by decide +kernel) rfl rfl rfl (by decide +kernel)
set_option maxRecDepth 65536 in
theorem w_c10 : (Jvm.Cond.code ({ cls := "java/lang/String", name := "isLatin1", desc := "()Z" } : Jvm.MethodName) jdk_42_method_154_code (1 : Nat) (Option.some Jvm.ClassFile.FieldType.boolean)).before args0 about1 = true := code_word (m := ⟨7, 8⟩) (meth := k7m8) (c := k7c8) (by decide +kernel) rfl rfl rfl (by decide +kernel)
set_option maxRecDepth 65536 in
theorem w_c11 : (Jvm.Cond.code ({ cls := "java/lang/StringLatin1", name := "charAt", desc := "([BI)C" } : Jvm.MethodName) jdk_43_method_2_code (2 : Nat) (Option.some Jvm.ClassFile.FieldType.char)).before args0 about1 = true := code_word (m := ⟨10, 1⟩) (meth := k10m1) (c := k10c1) (by decide +kernel) rfl rfl rfl (by decide +kernel)
set_option maxRecDepth 65536 in
theorem w_c12 : (Jvm.Cond.code ({ cls := "java/lang/String", name := "checkIndex", desc := "(II)V" } : Jvm.MethodName) jdk_42_method_155_code (2 : Nat) (Option.none : Option Jvm.ClassFile.FieldType)).before args0 about1 = true := code_word (m := ⟨7, 9⟩) (meth := k7m9) (c := k7c9) (by decide +kernel) rfl rfl rfl (by decide +kernel)
set_option maxRecDepth 65536 in
theorem w_c13 : (Jvm.Cond.code ({ cls := "jdk/internal/util/Preconditions", name := "checkIndex", desc := "(IILjava/util/function/BiFunction;)I" } : Jvm.MethodName) jdk_41_method_11_code (3 : Nat) (Option.some Jvm.ClassFile.FieldType.int)).before args0 about1 = true := code_word (m := ⟨11, 1⟩) (meth := k11m1) (c := k11c1) (by decide +kernel) rfl rfl rfl (by decide +kernel)
set_option maxRecDepth 65536 in
theorem w_c14 : (Jvm.Cond.code ({ cls := "com/example/wrange/wrange/FragmentParseNumberPinLaw", name := "fill", desc := "([CJ)V" } : Jvm.MethodName) method_4_code (5 : Nat) (Option.none : Option Jvm.ClassFile.FieldType)).before args0 about1 = true := code_word (m := ⟨1, 3⟩) (meth := k1m3) (c := k1c3) (by decide +kernel) rfl rfl rfl (by decide +kernel)
set_option maxRecDepth 65536 in
theorem w_c15 : (Jvm.Cond.code ({ cls := "com/example/wrange/wrange/FragmentParseNumberPinLaw", name := "digit", desc := "(J)C" } : Jvm.MethodName) method_3_code (2 : Nat) (Option.some Jvm.ClassFile.FieldType.char)).before args0 about1 = true := code_word (m := ⟨1, 2⟩) (meth := k1m2) (c := k1c2) (by decide +kernel) rfl rfl rfl (by decide +kernel)
set_option maxRecDepth 65536 in
theorem w_c16 : (Jvm.Cond.code ({ cls := "java/lang/String", name := "<init>", desc := "([C)V" } : Jvm.MethodName) jdk_42_method_3_code (2 : Nat) (Option.none : Option Jvm.ClassFile.FieldType)).before args0 about1 = true := code_word (m := ⟨7, 1⟩) (meth := k7m1) (c := k7c1) (by decide +kernel) rfl rfl rfl (by decide +kernel)
set_option maxRecDepth 65536 in
theorem w_c17 : (Jvm.Cond.code ({ cls := "java/lang/String", name := "<init>", desc := "([CIILjava/lang/Void;)V" } : Jvm.MethodName) jdk_42_method_149_code (6 : Nat) (Option.none : Option Jvm.ClassFile.FieldType)).before args0 about1 = true := code_word (m := ⟨7, 5⟩) (meth := k7m5) (c := k7c5) (by decide +kernel) rfl rfl rfl (by decide +kernel)
set_option maxRecDepth 65536 in
theorem w_c18 : (Jvm.Cond.code ({ cls := "java/lang/StringUTF16", name := "compress", desc := "([CII)[B" } : Jvm.MethodName) jdk_52_method_16_code (6 : Nat) (Option.some (Jvm.ClassFile.FieldType.array Jvm.ClassFile.FieldType.byte))).before args0 about1 = true := code_word (m := ⟨12, 2⟩) (meth := k12m2) (c := k12c2) (by decide +kernel) rfl rfl rfl (by decide +kernel)
set_option maxRecDepth 65536 in
theorem w_c19 : (Jvm.Cond.code ({ cls := "java/lang/StringUTF16", name := "compress", desc := "([CI[BII)I" } : Jvm.MethodName) jdk_52_method_21_code (7 : Nat) (Option.some Jvm.ClassFile.FieldType.int)).before args0 about1 = true := code_word (m := ⟨12, 3⟩) (meth := k12m3) (c := k12c3) (by decide +kernel) rfl rfl rfl (by decide +kernel)
set_option maxRecDepth 65536 in
theorem w_c20 : (Jvm.Cond.code ({ cls := "java/lang/StringUTF16", name := "coderFromArrayLen", desc := "([BI)B" } : Jvm.MethodName) jdk_52_method_15_code (2 : Nat) (Option.some Jvm.ClassFile.FieldType.byte)).before args0 about1 = true := code_word (m := ⟨12, 1⟩) (meth := k12m1) (c := k12c1) (by decide +kernel) rfl rfl rfl (by decide +kernel)
def codes1 : List Jvm.Cond := [Jvm.Cond.code x code maxLocals ret, Jvm.Cond.code ({ cls := "com/example/wrange/wrange/Fragment", name := "parseNumber", desc := "(Ljava/lang/String;)J" } : Jvm.MethodName) prog_4_method_17_code (5 : Nat) (Option.some Jvm.ClassFile.FieldType.long), Jvm.Cond.code ({ cls := "java/lang/String", name := "length", desc := "()I" } : Jvm.MethodName) jdk_42_method_54_code (1 : Nat) (Option.some Jvm.ClassFile.FieldType.int), Jvm.Cond.code ({ cls := "java/lang/String", name := "coder", desc := "()B" } : Jvm.MethodName) jdk_42_method_152_code (1 : Nat) (Option.some Jvm.ClassFile.FieldType.byte), Jvm.Cond.code ({ cls := "java/lang/String", name := "valueOf", desc := "(C)Ljava/lang/String;" } : Jvm.MethodName) jdk_42_method_139_code (1 : Nat) (Option.some (Jvm.ClassFile.FieldType.object "java/lang/String")), Jvm.Cond.code ({ cls := "java/lang/StringLatin1", name := "canEncode", desc := "(C)Z" } : Jvm.MethodName) jdk_43_method_3_code (1 : Nat) (Option.some Jvm.ClassFile.FieldType.boolean), Jvm.Cond.code ({ cls := "java/lang/StringLatin1", name := "toBytes", desc := "(C)[B" } : Jvm.MethodName) jdk_43_method_46_code (1 : Nat) (Option.some (Jvm.ClassFile.FieldType.array Jvm.ClassFile.FieldType.byte)), Jvm.Cond.code ({ cls := "java/lang/String", name := "<init>", desc := "([BB)V" } : Jvm.MethodName) jdk_42_method_151_code (3 : Nat) (Option.none : Option Jvm.ClassFile.FieldType), Jvm.Cond.code ({ cls := "java/lang/Object", name := "<init>", desc := "()V" } : Jvm.MethodName) object_method_1_code (1 : Nat) (Option.none : Option Jvm.ClassFile.FieldType), Jvm.Cond.code ({ cls := "java/lang/String", name := "charAt", desc := "(I)C" } : Jvm.MethodName) jdk_42_method_56_code (2 : Nat) (Option.some Jvm.ClassFile.FieldType.char), Jvm.Cond.code ({ cls := "java/lang/String", name := "isLatin1", desc := "()Z" } : Jvm.MethodName) jdk_42_method_154_code (1 : Nat) (Option.some Jvm.ClassFile.FieldType.boolean), Jvm.Cond.code ({ cls := "java/lang/StringLatin1", name := "charAt", desc := "([BI)C" } : Jvm.MethodName) jdk_43_method_2_code (2 : Nat) (Option.some Jvm.ClassFile.FieldType.char), Jvm.Cond.code ({ cls := "java/lang/String", name := "checkIndex", desc := "(II)V" } : Jvm.MethodName) jdk_42_method_155_code (2 : Nat) (Option.none : Option Jvm.ClassFile.FieldType), Jvm.Cond.code ({ cls := "jdk/internal/util/Preconditions", name := "checkIndex", desc := "(IILjava/util/function/BiFunction;)I" } : Jvm.MethodName) jdk_41_method_11_code (3 : Nat) (Option.some Jvm.ClassFile.FieldType.int), Jvm.Cond.code ({ cls := "com/example/wrange/wrange/FragmentParseNumberPinLaw", name := "fill", desc := "([CJ)V" } : Jvm.MethodName) method_4_code (5 : Nat) (Option.none : Option Jvm.ClassFile.FieldType), Jvm.Cond.code ({ cls := "com/example/wrange/wrange/FragmentParseNumberPinLaw", name := "digit", desc := "(J)C" } : Jvm.MethodName) method_3_code (2 : Nat) (Option.some Jvm.ClassFile.FieldType.char), Jvm.Cond.code ({ cls := "java/lang/String", name := "<init>", desc := "([C)V" } : Jvm.MethodName) jdk_42_method_3_code (2 : Nat) (Option.none : Option Jvm.ClassFile.FieldType), Jvm.Cond.code ({ cls := "java/lang/String", name := "<init>", desc := "([CIILjava/lang/Void;)V" } : Jvm.MethodName) jdk_42_method_149_code (6 : Nat) (Option.none : Option Jvm.ClassFile.FieldType), Jvm.Cond.code ({ cls := "java/lang/StringUTF16", name := "compress", desc := "([CII)[B" } : Jvm.MethodName) jdk_52_method_16_code (6 : Nat) (Option.some (Jvm.ClassFile.FieldType.array Jvm.ClassFile.FieldType.byte)), Jvm.Cond.code ({ cls := "java/lang/StringUTF16", name := "compress", desc := "([CI[BII)I" } : Jvm.MethodName) jdk_52_method_21_code (7 : Nat) (Option.some Jvm.ClassFile.FieldType.int), Jvm.Cond.code ({ cls := "java/lang/StringUTF16", name := "coderFromArrayLen", desc := "([BI)B" } : Jvm.MethodName) jdk_52_method_15_code (2 : Nat) (Option.some Jvm.ClassFile.FieldType.byte)]
set_option maxRecDepth 65536 in
theorem codes_eq : words1.filter isCode = codes1 := rfl
theorem w_codes : ∀ c ∈ words1.filter isCode, c.before args0 about1 = true := by
  rw [codes_eq]
  intro c hc
  simp only [codes1, List.mem_cons, List.not_mem_nil, or_false] at hc
  rcases hc with rfl | rfl | rfl | rfl | rfl | rfl | rfl | rfl | rfl | rfl | rfl | rfl | rfl | rfl | rfl | rfl | rfl | rfl | rfl | rfl | rfl
  · exact w_c0
  · exact w_c1
  · exact w_c2
  · exact w_c3
  · exact w_c4
  · exact w_c5
  · exact w_c6
  · exact w_c7
  · exact w_c8
  · exact w_c9
  · exact w_c10
  · exact w_c11
  · exact w_c12
  · exact w_c13
  · exact w_c14
  · exact w_c15
  · exact w_c16
  · exact w_c17
  · exact w_c18
  · exact w_c19
  · exact w_c20
set_option maxRecDepth 65536 in
theorem w_t1 : (words1.take 24).all (fun c => isCode c || c.before args0 about1) = true := by decide +kernel
set_option maxRecDepth 65536 in
theorem w_t2 : ((words1.drop 24).take 24).all (fun c => isCode c || c.before args0 about1) = true := by decide +kernel
set_option maxRecDepth 65536 in
theorem w_t3 : (((words1.drop 24).drop 24).take 24).all (fun c => isCode c || c.before args0 about1) = true := by decide +kernel
set_option maxRecDepth 65536 in
theorem w_t4 : ((((words1.drop 24).drop 24).drop 24).take 24).all (fun c => isCode c || c.before args0 about1) = true := by decide +kernel
set_option maxRecDepth 65536 in
theorem w_t5 : ((((words1.drop 24).drop 24).drop 24).drop 24).all (fun c => isCode c || c.before args0 about1) = true := by decide +kernel
theorem w_tables : (allAtoms (Jvm.Cond.code x code maxLocals ret :: tables_1)).before args0 about1 = true := by
  rw [allAtoms_all]
  show words1.all (fun c => c.before args0 about1) = true
  refine all_split ?_ w_codes
  rw [← List.take_append_drop 24 words1, List.all_append, w_t1, ← List.take_append_drop 24 (words1.drop 24), List.all_append, w_t2, ← List.take_append_drop 24 ((words1.drop 24).drop 24), List.all_append, w_t3, ← List.take_append_drop 24 (((words1.drop 24).drop 24).drop 24), List.all_append, w_t4, w_t5]
  rfl
set_option maxRecDepth 65536 in
theorem w_rest : rest_1_c.before args0 about1 = true := by decide +kernel
set_option maxRecDepth 65536 in
theorem w_case : (Jvm.Cond.and given_1 narrow_1).before args0 about1 = true := by decide +kernel
set_option maxRecDepth 65536 in
theorem w_consts : constsHeld consts_1 about1 := Jvm.Lit.constsHeldB_iff.mp (by decide +kernel)
theorem w_applies : (headSpec (Jvm.Cond.code x code maxLocals ret :: tables_1) room_1).applies x e0.platform about1 = true :=
  (Spec.applies_iff w_frames).mpr ⟨w_running, w_runnable, w_alone, w_named, w_hears, w_ripe, w_room, w_tables⟩
theorem atStart : AtStart classFile x code maxLocals ret World_1 tables_1 room_1 Calls_1 rest_1 Pre_1 launch0 p0 e0 about1 theMethod args0 below0 :=
  ⟨lists_1, trivial, launch0.admits_env _ _ _, launch0.least_env, fairChoices_fair.cas, fairChoices_fair.clock, w_frames, w_args, w_heap, w_applies, ⟨w_consts, trivial⟩, w_rest, w_case⟩
end start1
theorem witness_1 : WitnessClaimed_1 := ⟨start1.p0, start1.e0, start1.about1, start1.theMethod, start1.args0, start1.below0, start1.atStart⟩
end Jvm.Pilot.@@N@@
