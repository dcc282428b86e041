import JvmDerived
import JvmDerived.Pilot.@@N@@Statement
import JvmDerived.Pilot.@@N@@Code
set_option linter.unusedVariables false
set_option linter.unusedSimpArgs false
namespace Jvm.OwnKit
open Sem ClassFile Op Lib Jvm.Stand Jvm.Free Jvm.LawKit Jvm.RoadKit
abbrev Kx := (List Loc → Prop) × (Outcome → State → List Loc → Prop) × Program × Env × State × MethodId × Array Value × List Frame × Method × Code
def KS (K : Kx) : State := K.2.2.2.2.1
/-- what is fixed while one body is walked; fl: places may be written; kz: what the heap's length must reach at the end -/
def Ctx (l : Launch) (R : Room) (Z : State) (own nm : String) (code : ByteArray) (maxL : Nat) (ret : Option FieldType) (fl : Bool) (n0 kz : Nat) : Kx → Prop
  | (Pl, En, p, e, s, m, args, below, meth, c) => p.tables.exec = Jvm.exec ∧ Z.Warmed39 s.vm ∧ s.vm.findClass own = some m.cls ∧ c.code = code ∧ c.maxLocals = maxL ∧ meth.sig.returnType = ret ∧ meth.name = nm ∧ meth.locks = false ∧ (fl = true → ∀ A B, Pl A → Fr n0 B → Pl (A ++ B)) ∧ (∀ A, Pl A → Fr n0 A) ∧
    ∀ v (t : State) A, kz ≤ t.heap.size → s.WarmedH t.vm → s.sameButNew ({ t with vm := s.vm } : State) A R.cells R.slots → En (.returned v) t A
/-- from every stand with the heap h at this frame the body ends as Q says, all that it wrote lying at n0 or above -/
def Run (l : Launch) (R : Room) (n0 : Nat) (Q : Option Value → Heap → Vm → Prop) : Kx → Heap → Nat → Nat → Nat → Array Slot → List Value → Prop
  | (Pl, En, p, e, s, m, args, below, meth, c), h, cells, slots, pc, Ls, st => ∀ (T : State) (locs : List Loc), Stand p l e R s m args below meth c T locs cells slots → T.heap = h → Pl locs →
    ∃ s₂ o, Steps p.tables e below (T.setTop (mkF m pc Ls st)) s₂ ∧ s₂.status = .running ∧ Ended s₂ below o ∧ ∃ v L, o = .returned v ∧ (Q v s₂.heap s₂.vm ∧ Fr n0 L) ∧ En o s₂ L
/-- a body's contract: it interns nothing -/
def Con (l : Launch) (ws : List Jvm.Cond) (y : MethodName) (bytes : ByteArray) (maxL : Nat) (ret : Option FieldType) (rm : Room) (Z : State) (as : Array Value) (h0 : Heap) (n0 : Nat) (Q : Option Value → Heap → Prop) : Prop :=
  MetFree l y (head1 (Jvm.Cond.code y bytes maxL ret :: ws) rm) (fun a U => a = as ∧ Z.Warmed39 U.vm ∧ U.heap = h0) (fun _ _ _ _ _ => True) (fun _ U o U' => ∃ v L, o = .returned v ∧ (Q v U'.heap ∧ Fr n0 L) ∧ FrameEnd U o U' L rm.cells rm.slots)
/-- a body's contract: it may intern; V: what its start knows of the tables -/
def ConW (l : Launch) (ws : List Jvm.Cond) (y : MethodName) (bytes : ByteArray) (maxL : Nat) (ret : Option FieldType) (rm : Room) (Z : State) (as : Array Value) (h0 : Heap) (n0 : Nat) (V : Vm → Prop) (Q : Option Value → Heap → Vm → Prop) : Prop :=
  MetFree l y (head1 (Jvm.Cond.code y bytes maxL ret :: ws) rm) (fun a U => a = as ∧ Z.Warmed39 U.vm ∧ U.heap = h0 ∧ V U.vm) (fun _ _ _ _ _ => True) (fun _ U o U' => ∃ v L, o = .returned v ∧ (Q v U'.heap U'.vm ∧ Fr n0 L) ∧ ReturnedEndW U o U' L rm.cells rm.slots)
section
variable {l : Launch} {R : Room} {Z : State} {own nm : String} {code : ByteArray} {maxL : Nat} {ret : Option FieldType} {K : Kx} {fl : Bool} {n0 kz : Nat} {Q : Option Value → Heap → Vm → Prop} {h : Heap} {cells slots pc pc' : Nat} {Ls Ls' : Array Slot} {st rest : List Value} {a0 : Array Value}
theorem enter {ws : List Jvm.Cond} {y : MethodName} {as : Array Value} {h0 : Heap} {Q : Option Value → Heap → Prop} (pn : plainFor y = true) (ef : ∀ m, entryFrame m as maxL = mkF m 0 Ls []) (H : ∀ K, Ctx l R Z y.cls y.name code maxL ret true n0 0 K → Run l R n0 (fun v h _ => Q v h) K h0 0 0 0 Ls []) : Con l ws y code maxL ret R Z as h0 n0 Q := by
  refine MetFree.of_bodySF pn hisR ?_
  intro p e s m args below meth c s₁ Bd hml0 hP hK
  obtain ⟨rfl, hZ, hh⟩ := hP
  have X0 : Stand p l e R s m args below meth c s₁ [] 0 0 := Stand.of_body Bd
  obtain ⟨s2, o, k1, k2, k3, k4⟩ := H (Fr n0, fun o t L => FrameEnd s o t L R.cells R.slots, p, e, s, m, args, below, meth, c) ⟨Bd.exec, hZ, findClass_of_methodNamed Bd.named, Bd.bytes, hml0, Bd.returns, (name_of_methodNamed Bd.named Bd.method).1, Bd.notSynchronized, fun _ A B a b => Fr.app a b, fun A a => a, fun v t A _ h1 h2 => ⟨⟨v, rfl⟩, h1, h2⟩⟩ s₁ [] X0 (by rw [← hh, Bd.state]; rfl) (Fr.nil n0)
  exact ⟨s2, o, castTop (ef m) k1, k2, k3, k4⟩
/-- the base of a wide walk: whatever the tables have gained since the body's start, it ends well -/
def Wb (l : Launch) (R : Room) (Z : State) (own nm : String) (code : ByteArray) (maxL : Nat) (ret : Option FieldType) (n0 : Nat) (h0 : Heap) : Kx → Prop
  | (Pl, En, p, e, s, m, args, below, meth, c) => p.tables.exec = Jvm.exec ∧ Z.Warmed39 s.vm ∧ s.vm.findClass own = some m.cls ∧ c.code = code ∧ c.maxLocals = maxL ∧ meth.sig.returnType = ret ∧ meth.name = nm ∧ meth.locks = false ∧ s.heap = h0 ∧
    ∀ vm k v (t : State) A, s.Since vm k → k ≤ t.heap.size → (s.setVm vm).WarmedH t.vm → (s.setVm vm).sameButNew ({ t with vm := vm } : State) A R.cells R.slots → En (.returned v) t A
def Kw : Kx → (List Loc → Prop) → Vm → Kx
  | (_, En, p, e, s, m, args, below, meth, c), Pl, w => (Pl, En, p, e, s.setVm w, m, args, below, meth, c)
/-- the tables have become vm since the start -/
def Sn (K : Kx) (vm : Vm) (k : Nat) : Prop := (KS K).Since vm k
theorem Wb.ctx {h0 : Heap} {vm : Vm} {k : Nat} (W : Wb l R Z own nm code maxL ret n0 h0 K) (D : Sn K vm k) : Ctx l R Z own nm code maxL ret true n0 k (Kw K (Fr n0) vm) := by
  obtain ⟨Pl, En, p, e, s, m, args, below, meth, c⟩ := K
  obtain ⟨w1, w2, w3, w4, w5, w6, w7, w8, w9, w10⟩ := W
  have D' : s.Since vm k := D
  exact ⟨w1, State.Warmed39.trans w2 D'.1, by rw [show (s.setVm vm).vm = vm from rfl, D'.1.alike.findClass]; exact w3, w4, w5, w6, w7, w8, fun _ A B a b => Fr.app a b, fun A a => a, fun v t A h1 h2 h3 => w10 vm k v t A D' h1 h2 h3⟩
theorem Wb.ctx0 {h0 : Heap} {vm : Vm} {k : Nat} (W : Wb l R Z own nm code maxL ret n0 h0 K) (D : Sn K vm k) : Ctx l R Z own nm code maxL ret false n0 k (Kw K (· = []) vm) := by
  obtain ⟨Pl, En, p, e, s, m, args, below, meth, c⟩ := K
  obtain ⟨w1, w2, w3, w4, w5, w6, w7, w8, w9, w10⟩ := W
  have D' : s.Since vm k := D
  exact ⟨w1, State.Warmed39.trans w2 D'.1, by rw [show (s.setVm vm).vm = vm from rfl, D'.1.alike.findClass]; exact w3, w4, w5, w6, w7, w8, (fun q => Bool.noConfusion q), (fun A (a : A = []) => a ▸ Fr.nil n0), fun v t A h1 h2 h3 => w10 vm k v t A D' h1 h2 h3⟩
/-- nothing written so far: from now on anything may be -/
theorem Run.touch {vm : Vm} (r : Run l R n0 Q (Kw K (Fr n0) vm) h cells slots pc Ls st) : Run l R n0 Q (Kw K (· = []) vm) h cells slots pc Ls st := by
  obtain ⟨Pl, En, p, e, s, m, args, below, meth, c⟩ := K
  intro T locs X eT N
  exact r T locs X eT (by rw [N]; exact Fr.nil n0)
theorem since_refl (s : State) : s.Since s.vm s.heap.size := ⟨State.Warmed39.refl s, fun j p h1 h2 => absurd (Array.getElem?_eq_some_iff.mp h2).1 (Nat.not_lt.mpr h1)⟩
theorem enterW {ws : List Jvm.Cond} {y : MethodName} {as : Array Value} {h0 : Heap} {V : Vm → Prop} (pn : plainFor y = true) (ef : ∀ m, entryFrame m as maxL = mkF m 0 Ls []) (H : ∀ K vm k, Wb l R Z y.cls y.name code maxL ret n0 h0 K → Sn K vm k → k ≤ h0.size → V vm → Run l R n0 Q (Kw K (· = []) vm) h0 0 0 0 Ls []) : ConW l ws y code maxL ret R Z as h0 n0 V Q := by
  refine MetFree.of_bodySF pn hisR ?_
  intro p e s m args below meth c s₁ Bd hml0 hP hK
  obtain ⟨rfl, hZ, hh, hV⟩ := hP
  have X0 : Stand p l e R s m args below meth c s₁ [] 0 0 := Stand.of_body Bd
  obtain ⟨s2, o, k1, k2, k3, k4⟩ := H (Fr n0, fun o t L => ReturnedEndW s o t L R.cells R.slots, p, e, s, m, args, below, meth, c) s.vm s.heap.size ⟨Bd.exec, hZ, findClass_of_methodNamed Bd.named, Bd.bytes, hml0, Bd.returns, (name_of_methodNamed Bd.named Bd.method).1, Bd.notSynchronized, hh, fun vm k v t A hS hk h1 h2 => ⟨⟨v, rfl⟩, hS.ended h1 hk h2⟩⟩ (since_refl s) (by rw [hh]; exact Nat.le_refl _) hV s₁ [] X0 (by rw [← hh, Bd.state]; rfl) rfl
  exact ⟨s2, o, castTop (ef m) k1, k2, k3, k4⟩
theorem Run.le {cells' slots' : Nat} (hc : cells ≤ cells') (hs : slots ≤ slots') (r : Run l R n0 Q K h cells' slots' pc Ls st) : Run l R n0 Q K h cells slots pc Ls st := by
  obtain ⟨Pl, En, p, e, s, m, args, below, meth, c⟩ := K
  intro T locs X eT N
  exact r T locs (X.more hc hs) eT N
theorem Con.weaken {ws : List Jvm.Cond} {y : MethodName} {as : Array Value} {Q Q' : Option Value → Heap → Prop} (r : Con l ws y code maxL ret R Z as h n0 Q') (hq : ∀ v h, Q' v h → Q v h) : Con l ws y code maxL ret R Z as h n0 Q := by
  intro p e a1 a2 a3 s m args below a4 a5 a6 a7
  obtain ⟨s2, o, k1, k2, k3, v, L, k4, ⟨k5, k6⟩, k7⟩ := r p e a1 a2 a3 s m args below a4 a5 a6 a7
  exact ⟨s2, o, k1, k2, k3, v, L, k4, ⟨hq _ _ k5, k6⟩, k7⟩
/-- one step that moves the frame alone -/
theorem Run.pure (C : Ctx l R Z own nm code maxL ret fl n0 kz K) (hp : pc + 0 = pc ∨ True)
    (k : ∀ (p : Program) (e : Env) (s : State) (m : MethodId) (args : Array Value) (below : List Frame) (meth : Method) (c : Code), p.tables.exec = Jvm.exec → c.code = code → s.vm.findClass own = some m.cls → Z.Warmed39 s.vm → ∀ (T : State) (locs : List Loc), Stand p l e R s m args below meth c T locs cells slots → T.heap = h → ∀ target, Steps p.tables e below (T.setTop (mkF m pc' Ls' rest)) target → Steps p.tables e below (T.setTop (mkF m pc Ls st)) target)
    (r : Run l R n0 Q K h cells slots pc' Ls' rest) : Run l R n0 Q K h cells slots pc Ls st := by
  obtain ⟨Pl, En, p, e, s, m, args, below, meth, c⟩ := K
  intro T locs X eT N
  obtain ⟨hx, hZ, hown, hby, -⟩ := C
  obtain ⟨s2, o, k1, k2⟩ := r T locs X eT N
  exact ⟨s2, o, k p e s m args below meth c hx hby hown hZ T locs X eT _ k1, k2⟩

theorem r_aloadN (C : Ctx l R Z own nm code maxL ret fl n0 kz K) {k : Fin 4} {v : Value} (hd : decode code pc = .ok (.aload_n k, 1)) (hp : pc + 1 = pc') (hl : Ls[k.val]? = some (.val v)) (hv : v.isRef = true) (r : Run l R n0 Q K h cells slots pc' Ls (v :: st)) : Run l R n0 Q K h cells slots pc Ls (st) :=
  Run.pure C (Or.inr trivial) (fun p e s m args below meth c hx hby hown hZ T locs X eT target k => by subst hp; exact XS.aloadN X.here hx rfl (hb hby hd) hl hv k) r
theorem r_aload (C : Ctx l R Z own nm code maxL ret fl n0 kz K) {k : Nat} {v : Value} (hd : decode code pc = .ok (.aload k, 2)) (hp : pc + 2 = pc') (hl : Ls[k]? = some (.val v)) (hv : v.isRef = true) (r : Run l R n0 Q K h cells slots pc' Ls (v :: st)) : Run l R n0 Q K h cells slots pc Ls (st) :=
  Run.pure C (Or.inr trivial) (fun p e s m args below meth c hx hby hown hZ T locs X eT target k => by subst hp; exact XS.aload X.here hx rfl (hb hby hd) hl hv k) r
theorem r_iloadN (C : Ctx l R Z own nm code maxL ret fl n0 kz K) {k : Fin 4} {v : Int32} (hd : decode code pc = .ok (.iload_n k, 1)) (hp : pc + 1 = pc') (hl : Ls[k.val]? = some (.val (.int v))) (r : Run l R n0 Q K h cells slots pc' Ls (.int v :: st)) : Run l R n0 Q K h cells slots pc Ls (st) :=
  Run.pure C (Or.inr trivial) (fun p e s m args below meth c hx hby hown hZ T locs X eT target k => by subst hp; exact XS.iloadN X.here hx rfl (hb hby hd) hl k) r
theorem r_iload (C : Ctx l R Z own nm code maxL ret fl n0 kz K) {k : Nat} {v : Int32} (hd : decode code pc = .ok (.iload k, 2)) (hp : pc + 2 = pc') (hl : Ls[k]? = some (.val (.int v))) (r : Run l R n0 Q K h cells slots pc' Ls (.int v :: st)) : Run l R n0 Q K h cells slots pc Ls (st) :=
  Run.pure C (Or.inr trivial) (fun p e s m args below meth c hx hby hown hZ T locs X eT target k => by subst hp; exact XS.iload X.here hx rfl (hb hby hd) hl k) r
theorem r_lloadN (C : Ctx l R Z own nm code maxL ret fl n0 kz K) {k : Fin 4} {v : Int64} (hd : decode code pc = .ok (.lload_n k, 1)) (hp : pc + 1 = pc') (hl : Ls[k.val]? = some (.val (.long v))) (r : Run l R n0 Q K h cells slots pc' Ls (.long v :: st)) : Run l R n0 Q K h cells slots pc Ls (st) :=
  Run.pure C (Or.inr trivial) (fun p e s m args below meth c hx hby hown hZ T locs X eT target k => by subst hp; exact XT.lloadN X.here hx rfl (hb hby hd) hl k) r
theorem r_lload (C : Ctx l R Z own nm code maxL ret fl n0 kz K) {k : Nat} {v : Int64} (hd : decode code pc = .ok (.lload k, 2)) (hp : pc + 2 = pc') (hl : Ls[k]? = some (.val (.long v))) (r : Run l R n0 Q K h cells slots pc' Ls (.long v :: st)) : Run l R n0 Q K h cells slots pc Ls (st) :=
  Run.pure C (Or.inr trivial) (fun p e s m args below meth c hx hby hown hZ T locs X eT target k => by subst hp; exact XT.lload X.here hx rfl (hb hby hd) hl k) r
theorem r_astoreN (C : Ctx l R Z own nm code maxL ret fl n0 kz K) {k : Fin 4} {v : Value} (hd : decode code pc = .ok (.astore_n k, 1)) (hp : pc + 1 = pc') (hl : storeLocals Ls k.val v = some Ls') (hv : v.isRef = true) (r : Run l R n0 Q K h cells slots pc' Ls' (st)) : Run l R n0 Q K h cells slots pc Ls (v :: st) :=
  Run.pure C (Or.inr trivial) (fun p e s m args below meth c hx hby hown hZ T locs X eT target k => by subst hp; exact XS.astoreN X.here hx rfl (hb hby hd) rfl hv hl k) r
theorem r_astore (C : Ctx l R Z own nm code maxL ret fl n0 kz K) {k : Nat} {v : Value} (hd : decode code pc = .ok (.astore k, 2)) (hp : pc + 2 = pc') (hl : storeLocals Ls k v = some Ls') (hv : v.isRef = true) (r : Run l R n0 Q K h cells slots pc' Ls' (st)) : Run l R n0 Q K h cells slots pc Ls (v :: st) :=
  Run.pure C (Or.inr trivial) (fun p e s m args below meth c hx hby hown hZ T locs X eT target k => by subst hp; exact XS.astore X.here hx rfl (hb hby hd) rfl hv hl k) r
theorem r_istoreN (C : Ctx l R Z own nm code maxL ret fl n0 kz K) {k : Fin 4} {v : Int32} (hd : decode code pc = .ok (.istore_n k, 1)) (hp : pc + 1 = pc') (hl : storeLocals Ls k.val (.int v) = some Ls') (r : Run l R n0 Q K h cells slots pc' Ls' (st)) : Run l R n0 Q K h cells slots pc Ls (.int v :: st) :=
  Run.pure C (Or.inr trivial) (fun p e s m args below meth c hx hby hown hZ T locs X eT target k => by subst hp; exact XS.istoreN X.here hx rfl (hb hby hd) rfl hl k) r
theorem r_istore (C : Ctx l R Z own nm code maxL ret fl n0 kz K) {k : Nat} {v : Int32} (hd : decode code pc = .ok (.istore k, 2)) (hp : pc + 2 = pc') (hl : storeLocals Ls k (.int v) = some Ls') (r : Run l R n0 Q K h cells slots pc' Ls' (st)) : Run l R n0 Q K h cells slots pc Ls (.int v :: st) :=
  Run.pure C (Or.inr trivial) (fun p e s m args below meth c hx hby hown hZ T locs X eT target k => by subst hp; exact XS.istore X.here hx rfl (hb hby hd) rfl hl k) r
theorem r_lstoreN (C : Ctx l R Z own nm code maxL ret fl n0 kz K) {k : Fin 4} {v : Int64} (hd : decode code pc = .ok (.lstore_n k, 1)) (hp : pc + 1 = pc') (hl : storeLocals Ls k.val (.long v) = some Ls') (r : Run l R n0 Q K h cells slots pc' Ls' (st)) : Run l R n0 Q K h cells slots pc Ls (.long v :: st) :=
  Run.pure C (Or.inr trivial) (fun p e s m args below meth c hx hby hown hZ T locs X eT target k => by subst hp; exact XT.lstoreN X.here hx rfl (hb hby hd) rfl hl k) r
theorem r_lstore (C : Ctx l R Z own nm code maxL ret fl n0 kz K) {k : Nat} {v : Int64} (hd : decode code pc = .ok (.lstore k, 2)) (hp : pc + 2 = pc') (hl : storeLocals Ls k (.long v) = some Ls') (r : Run l R n0 Q K h cells slots pc' Ls' (st)) : Run l R n0 Q K h cells slots pc Ls (.long v :: st) :=
  Run.pure C (Or.inr trivial) (fun p e s m args below meth c hx hby hown hZ T locs X eT target k => by subst hp; exact XT.lstore X.here hx rfl (hb hby hd) rfl hl k) r
theorem r_iconst (C : Ctx l R Z own nm code maxL ret fl n0 kz K) {i : Int} {v : Int32} (hd : decode code pc = .ok (.iconst i, 1)) (hp : pc + 1 = pc') (hv : Int32.ofInt i = v) (r : Run l R n0 Q K h cells slots pc' Ls (.int v :: st)) : Run l R n0 Q K h cells slots pc Ls (st) :=
  Run.pure C (Or.inr trivial) (fun p e s m args below meth c hx hby hown hZ T locs X eT target k => by subst hp; exact XT.iconstV X.here hx rfl v (hb hby hd) hv k) r
theorem r_bipush (C : Ctx l R Z own nm code maxL ret fl n0 kz K) {i : Int} {v : Int32} (hd : decode code pc = .ok (.bipush i, 2)) (hp : pc + 2 = pc') (hv : (Int8.ofInt i).toInt32 = v) (r : Run l R n0 Q K h cells slots pc' Ls (.int v :: st)) : Run l R n0 Q K h cells slots pc Ls (st) :=
  Run.pure C (Or.inr trivial) (fun p e s m args below meth c hx hby hown hZ T locs X eT target k => by subst hp; exact XT.bipushV X.here hx rfl v (hb hby hd) hv k) r
theorem r_sipush (C : Ctx l R Z own nm code maxL ret fl n0 kz K) {i : Int} {v : Int32} (hd : decode code pc = .ok (.sipush i, 3)) (hp : pc + 3 = pc') (hv : (Int16.ofInt i).toInt32 = v) (r : Run l R n0 Q K h cells slots pc' Ls (.int v :: st)) : Run l R n0 Q K h cells slots pc Ls (st) :=
  Run.pure C (Or.inr trivial) (fun p e s m args below meth c hx hby hown hZ T locs X eT target k => by subst hp; exact XT.sipushV X.here hx rfl v (hb hby hd) hv k) r
theorem r_lconst (C : Ctx l R Z own nm code maxL ret fl n0 kz K) {i : Fin 2} {v : Int64} (hd : decode code pc = .ok (.lconst i, 1)) (hp : pc + 1 = pc') (hv : Int64.ofNat i = v) (r : Run l R n0 Q K h cells slots pc' Ls (.long v :: st)) : Run l R n0 Q K h cells slots pc Ls (st) :=
  Run.pure C (Or.inr trivial) (fun p e s m args below meth c hx hby hown hZ T locs X eT target k => by subst hp; exact XT.lconstV X.here hx rfl v (hb hby hd) hv k) r
theorem r_aconst_null (C : Ctx l R Z own nm code maxL ret fl n0 kz K) (hd : decode code pc = .ok (.aconst_null, 1)) (hp : pc + 1 = pc') (r : Run l R n0 Q K h cells slots pc' Ls (.null :: st)) : Run l R n0 Q K h cells slots pc Ls (st) :=
  Run.pure C (Or.inr trivial) (fun p e s m args below meth c hx hby hown hZ T locs X eT target k => by subst hp; exact XS.aconstNull X.here hx rfl (hb hby hd) k) r
theorem r_iadd (C : Ctx l R Z own nm code maxL ret fl n0 kz K) {x y : Int32} (hd : decode code pc = .ok (.iadd, 1)) (hp : pc + 1 = pc') (r : Run l R n0 Q K h cells slots pc' Ls (.int (x + y) :: st)) : Run l R n0 Q K h cells slots pc Ls (.int y :: .int x :: st) :=
  Run.pure C (Or.inr trivial) (fun p e s m args below meth c hx hby hown hZ T locs X eT target k => by subst hp; exact XS.iadd X.here hx rfl (hb hby hd) rfl k) r
theorem r_isub (C : Ctx l R Z own nm code maxL ret fl n0 kz K) {x y : Int32} (hd : decode code pc = .ok (.isub, 1)) (hp : pc + 1 = pc') (r : Run l R n0 Q K h cells slots pc' Ls (.int (x - y) :: st)) : Run l R n0 Q K h cells slots pc Ls (.int y :: .int x :: st) :=
  Run.pure C (Or.inr trivial) (fun p e s m args below meth c hx hby hown hZ T locs X eT target k => by subst hp; exact XS.isub X.here hx rfl (hb hby hd) rfl k) r
theorem r_imul (C : Ctx l R Z own nm code maxL ret fl n0 kz K) {x y : Int32} (hd : decode code pc = .ok (.imul, 1)) (hp : pc + 1 = pc') (r : Run l R n0 Q K h cells slots pc' Ls (.int (x * y) :: st)) : Run l R n0 Q K h cells slots pc Ls (.int y :: .int x :: st) :=
  Run.pure C (Or.inr trivial) (fun p e s m args below meth c hx hby hown hZ T locs X eT target k => by subst hp; exact XS.imul X.here hx rfl (hb hby hd) rfl k) r
theorem r_iand (C : Ctx l R Z own nm code maxL ret fl n0 kz K) {x y : Int32} (hd : decode code pc = .ok (.iand, 1)) (hp : pc + 1 = pc') (r : Run l R n0 Q K h cells slots pc' Ls (.int (x &&& y) :: st)) : Run l R n0 Q K h cells slots pc Ls (.int y :: .int x :: st) :=
  Run.pure C (Or.inr trivial) (fun p e s m args below meth c hx hby hown hZ T locs X eT target k => by subst hp; exact XS.iand X.here hx rfl (hb hby hd) rfl k) r
theorem r_ior (C : Ctx l R Z own nm code maxL ret fl n0 kz K) {x y : Int32} (hd : decode code pc = .ok (.ior, 1)) (hp : pc + 1 = pc') (r : Run l R n0 Q K h cells slots pc' Ls (.int (x ||| y) :: st)) : Run l R n0 Q K h cells slots pc Ls (.int y :: .int x :: st) :=
  Run.pure C (Or.inr trivial) (fun p e s m args below meth c hx hby hown hZ T locs X eT target k => by subst hp; exact XT.ior X.here hx rfl (hb hby hd) rfl k) r
theorem r_ixor (C : Ctx l R Z own nm code maxL ret fl n0 kz K) {x y : Int32} (hd : decode code pc = .ok (.ixor, 1)) (hp : pc + 1 = pc') (r : Run l R n0 Q K h cells slots pc' Ls (.int (x ^^^ y) :: st)) : Run l R n0 Q K h cells slots pc Ls (.int y :: .int x :: st) :=
  Run.pure C (Or.inr trivial) (fun p e s m args below meth c hx hby hown hZ T locs X eT target k => by subst hp; exact XT.ixor X.here hx rfl (hb hby hd) rfl k) r
theorem r_ishl (C : Ctx l R Z own nm code maxL ret fl n0 kz K) {x y : Int32} (hd : decode code pc = .ok (.ishl, 1)) (hp : pc + 1 = pc') (r : Run l R n0 Q K h cells slots pc' Ls (.int (x <<< (y &&& 31)) :: st)) : Run l R n0 Q K h cells slots pc Ls (.int y :: .int x :: st) :=
  Run.pure C (Or.inr trivial) (fun p e s m args below meth c hx hby hown hZ T locs X eT target k => by subst hp; exact XT.ishl X.here hx rfl (hb hby hd) rfl k) r
theorem r_ishr (C : Ctx l R Z own nm code maxL ret fl n0 kz K) {x y : Int32} (hd : decode code pc = .ok (.ishr, 1)) (hp : pc + 1 = pc') (r : Run l R n0 Q K h cells slots pc' Ls (.int (x >>> (y &&& 31)) :: st)) : Run l R n0 Q K h cells slots pc Ls (.int y :: .int x :: st) :=
  Run.pure C (Or.inr trivial) (fun p e s m args below meth c hx hby hown hZ T locs X eT target k => by subst hp; exact XT.ishr X.here hx rfl (hb hby hd) rfl k) r
theorem r_iushr (C : Ctx l R Z own nm code maxL ret fl n0 kz K) {x y : Int32} (hd : decode code pc = .ok (.iushr, 1)) (hp : pc + 1 = pc') (r : Run l R n0 Q K h cells slots pc' Ls (.int (XT.ushr x y) :: st)) : Run l R n0 Q K h cells slots pc Ls (.int y :: .int x :: st) :=
  Run.pure C (Or.inr trivial) (fun p e s m args below meth c hx hby hown hZ T locs X eT target k => by subst hp; exact XT.iushr X.here hx rfl (hb hby hd) rfl k) r
theorem r_ladd (C : Ctx l R Z own nm code maxL ret fl n0 kz K) {x y : Int64} (hd : decode code pc = .ok (.ladd, 1)) (hp : pc + 1 = pc') (r : Run l R n0 Q K h cells slots pc' Ls (.long (x + y) :: st)) : Run l R n0 Q K h cells slots pc Ls (.long y :: .long x :: st) :=
  Run.pure C (Or.inr trivial) (fun p e s m args below meth c hx hby hown hZ T locs X eT target k => by subst hp; exact XT.ladd X.here hx rfl (hb hby hd) rfl k) r
theorem r_lsub (C : Ctx l R Z own nm code maxL ret fl n0 kz K) {x y : Int64} (hd : decode code pc = .ok (.lsub, 1)) (hp : pc + 1 = pc') (r : Run l R n0 Q K h cells slots pc' Ls (.long (x - y) :: st)) : Run l R n0 Q K h cells slots pc Ls (.long y :: .long x :: st) :=
  Run.pure C (Or.inr trivial) (fun p e s m args below meth c hx hby hown hZ T locs X eT target k => by subst hp; exact XT.lsub X.here hx rfl (hb hby hd) rfl k) r
theorem r_lmul (C : Ctx l R Z own nm code maxL ret fl n0 kz K) {x y : Int64} (hd : decode code pc = .ok (.lmul, 1)) (hp : pc + 1 = pc') (r : Run l R n0 Q K h cells slots pc' Ls (.long (x * y) :: st)) : Run l R n0 Q K h cells slots pc Ls (.long y :: .long x :: st) :=
  Run.pure C (Or.inr trivial) (fun p e s m args below meth c hx hby hown hZ T locs X eT target k => by subst hp; exact XT.lmul X.here hx rfl (hb hby hd) rfl k) r
theorem r_land (C : Ctx l R Z own nm code maxL ret fl n0 kz K) {x y : Int64} (hd : decode code pc = .ok (.land, 1)) (hp : pc + 1 = pc') (r : Run l R n0 Q K h cells slots pc' Ls (.long (x &&& y) :: st)) : Run l R n0 Q K h cells slots pc Ls (.long y :: .long x :: st) :=
  Run.pure C (Or.inr trivial) (fun p e s m args below meth c hx hby hown hZ T locs X eT target k => by subst hp; exact XT.land X.here hx rfl (hb hby hd) rfl k) r
theorem r_lor (C : Ctx l R Z own nm code maxL ret fl n0 kz K) {x y : Int64} (hd : decode code pc = .ok (.lor, 1)) (hp : pc + 1 = pc') (r : Run l R n0 Q K h cells slots pc' Ls (.long (x ||| y) :: st)) : Run l R n0 Q K h cells slots pc Ls (.long y :: .long x :: st) :=
  Run.pure C (Or.inr trivial) (fun p e s m args below meth c hx hby hown hZ T locs X eT target k => by subst hp; exact XT.lor X.here hx rfl (hb hby hd) rfl k) r
theorem r_lxor (C : Ctx l R Z own nm code maxL ret fl n0 kz K) {x y : Int64} (hd : decode code pc = .ok (.lxor, 1)) (hp : pc + 1 = pc') (r : Run l R n0 Q K h cells slots pc' Ls (.long (x ^^^ y) :: st)) : Run l R n0 Q K h cells slots pc Ls (.long y :: .long x :: st) :=
  Run.pure C (Or.inr trivial) (fun p e s m args below meth c hx hby hown hZ T locs X eT target k => by subst hp; exact XT.lxor X.here hx rfl (hb hby hd) rfl k) r
theorem r_lshl (C : Ctx l R Z own nm code maxL ret fl n0 kz K) {x : Int64} {y : Int32} (hd : decode code pc = .ok (.lshl, 1)) (hp : pc + 1 = pc') (r : Run l R n0 Q K h cells slots pc' Ls (.long (x <<< (y.toInt64 &&& 63)) :: st)) : Run l R n0 Q K h cells slots pc Ls (.int y :: .long x :: st) :=
  Run.pure C (Or.inr trivial) (fun p e s m args below meth c hx hby hown hZ T locs X eT target k => by subst hp; exact XT.lshl X.here hx rfl (hb hby hd) rfl k) r
theorem r_lshr (C : Ctx l R Z own nm code maxL ret fl n0 kz K) {x : Int64} {y : Int32} (hd : decode code pc = .ok (.lshr, 1)) (hp : pc + 1 = pc') (r : Run l R n0 Q K h cells slots pc' Ls (.long (x >>> (y.toInt64 &&& 63)) :: st)) : Run l R n0 Q K h cells slots pc Ls (.int y :: .long x :: st) :=
  Run.pure C (Or.inr trivial) (fun p e s m args below meth c hx hby hown hZ T locs X eT target k => by subst hp; exact XT.lshr X.here hx rfl (hb hby hd) rfl k) r
theorem r_lushr (C : Ctx l R Z own nm code maxL ret fl n0 kz K) {x : Int64} {y : Int32} (hd : decode code pc = .ok (.lushr, 1)) (hp : pc + 1 = pc') (r : Run l R n0 Q K h cells slots pc' Ls (.long (XT.ushrL x y) :: st)) : Run l R n0 Q K h cells slots pc Ls (.int y :: .long x :: st) :=
  Run.pure C (Or.inr trivial) (fun p e s m args below meth c hx hby hown hZ T locs X eT target k => by subst hp; exact XT.lushr X.here hx rfl (hb hby hd) rfl k) r
theorem r_idiv (C : Ctx l R Z own nm code maxL ret fl n0 kz K) {x y : Int32} (hd : decode code pc = .ok (.idiv, 1)) (hp : pc + 1 = pc') (hy : y ≠ 0) (r : Run l R n0 Q K h cells slots pc' Ls (.int (x / y) :: st)) : Run l R n0 Q K h cells slots pc Ls (.int y :: .int x :: st) :=
  Run.pure C (Or.inr trivial) (fun p e s m args below meth c hx hby hown hZ T locs X eT target k => by subst hp; exact XS.idiv X.here hx rfl (hb hby hd) rfl hy k) r
theorem r_irem (C : Ctx l R Z own nm code maxL ret fl n0 kz K) {x y : Int32} (hd : decode code pc = .ok (.irem, 1)) (hp : pc + 1 = pc') (hy : y ≠ 0) (r : Run l R n0 Q K h cells slots pc' Ls (.int (x % y) :: st)) : Run l R n0 Q K h cells slots pc Ls (.int y :: .int x :: st) :=
  Run.pure C (Or.inr trivial) (fun p e s m args below meth c hx hby hown hZ T locs X eT target k => by subst hp; exact iremM X hx rfl (hb hby hd) rfl hy k) r
theorem r_ldiv (C : Ctx l R Z own nm code maxL ret fl n0 kz K) {x y : Int64} (hd : decode code pc = .ok (.ldiv, 1)) (hp : pc + 1 = pc') (hy : y ≠ 0) (r : Run l R n0 Q K h cells slots pc' Ls (.long (x / y) :: st)) : Run l R n0 Q K h cells slots pc Ls (.long y :: .long x :: st) :=
  Run.pure C (Or.inr trivial) (fun p e s m args below meth c hx hby hown hZ T locs X eT target k => by subst hp; exact XT.ldiv X.here hx rfl (hb hby hd) rfl hy k) r
theorem r_lrem (C : Ctx l R Z own nm code maxL ret fl n0 kz K) {x y : Int64} (hd : decode code pc = .ok (.lrem, 1)) (hp : pc + 1 = pc') (hy : y ≠ 0) (r : Run l R n0 Q K h cells slots pc' Ls (.long (x - (x / y) * y) :: st)) : Run l R n0 Q K h cells slots pc Ls (.long y :: .long x :: st) :=
  Run.pure C (Or.inr trivial) (fun p e s m args below meth c hx hby hown hZ T locs X eT target k => by subst hp; exact XT.lrem X.here hx rfl (hb hby hd) rfl hy k) r
theorem r_ineg (C : Ctx l R Z own nm code maxL ret fl n0 kz K) {x : Int32} (hd : decode code pc = .ok (.ineg, 1)) (hp : pc + 1 = pc') (r : Run l R n0 Q K h cells slots pc' Ls (.int (-x) :: st)) : Run l R n0 Q K h cells slots pc Ls (.int x :: st) :=
  Run.pure C (Or.inr trivial) (fun p e s m args below meth c hx hby hown hZ T locs X eT target k => by subst hp; exact XS.ineg X.here hx rfl (hb hby hd) rfl k) r
theorem r_lneg (C : Ctx l R Z own nm code maxL ret fl n0 kz K) {x : Int64} (hd : decode code pc = .ok (.lneg, 1)) (hp : pc + 1 = pc') (r : Run l R n0 Q K h cells slots pc' Ls (.long (-x) :: st)) : Run l R n0 Q K h cells slots pc Ls (.long x :: st) :=
  Run.pure C (Or.inr trivial) (fun p e s m args below meth c hx hby hown hZ T locs X eT target k => by subst hp; exact XT.lneg X.here hx rfl (hb hby hd) rfl k) r
theorem r_i2l (C : Ctx l R Z own nm code maxL ret fl n0 kz K) {x : Int32} (hd : decode code pc = .ok (.i2l, 1)) (hp : pc + 1 = pc') (r : Run l R n0 Q K h cells slots pc' Ls (.long (x.toInt64) :: st)) : Run l R n0 Q K h cells slots pc Ls (.int x :: st) :=
  Run.pure C (Or.inr trivial) (fun p e s m args below meth c hx hby hown hZ T locs X eT target k => by subst hp; exact XT.i2l X.here hx rfl (hb hby hd) rfl k) r
theorem r_l2i (C : Ctx l R Z own nm code maxL ret fl n0 kz K) {x : Int64} (hd : decode code pc = .ok (.l2i, 1)) (hp : pc + 1 = pc') (r : Run l R n0 Q K h cells slots pc' Ls (.int (x.toInt32) :: st)) : Run l R n0 Q K h cells slots pc Ls (.long x :: st) :=
  Run.pure C (Or.inr trivial) (fun p e s m args below meth c hx hby hown hZ T locs X eT target k => by subst hp; exact XT.l2i X.here hx rfl (hb hby hd) rfl k) r
theorem r_i2b (C : Ctx l R Z own nm code maxL ret fl n0 kz K) {x : Int32} (hd : decode code pc = .ok (.i2b, 1)) (hp : pc + 1 = pc') (r : Run l R n0 Q K h cells slots pc' Ls (.int (x.toInt8.toInt32) :: st)) : Run l R n0 Q K h cells slots pc Ls (.int x :: st) :=
  Run.pure C (Or.inr trivial) (fun p e s m args below meth c hx hby hown hZ T locs X eT target k => by subst hp; exact XT.i2b X.here hx rfl (hb hby hd) rfl k) r
theorem r_i2c (C : Ctx l R Z own nm code maxL ret fl n0 kz K) {x : Int32} (hd : decode code pc = .ok (.i2c, 1)) (hp : pc + 1 = pc') (r : Run l R n0 Q K h cells slots pc' Ls (.int (x.toUInt32.toUInt16.toUInt32.toInt32) :: st)) : Run l R n0 Q K h cells slots pc Ls (.int x :: st) :=
  Run.pure C (Or.inr trivial) (fun p e s m args below meth c hx hby hown hZ T locs X eT target k => by subst hp; exact XT.i2c X.here hx rfl (hb hby hd) rfl k) r
theorem r_i2s (C : Ctx l R Z own nm code maxL ret fl n0 kz K) {x : Int32} (hd : decode code pc = .ok (.i2s, 1)) (hp : pc + 1 = pc') (r : Run l R n0 Q K h cells slots pc' Ls (.int (x.toInt16.toInt32) :: st)) : Run l R n0 Q K h cells slots pc Ls (.int x :: st) :=
  Run.pure C (Or.inr trivial) (fun p e s m args below meth c hx hby hown hZ T locs X eT target k => by subst hp; exact XT.i2s X.here hx rfl (hb hby hd) rfl k) r
theorem r_dup (C : Ctx l R Z own nm code maxL ret fl n0 kz K) {x : Value} (hd : decode code pc = .ok (.dup, 1)) (hp : pc + 1 = pc') (hc : x.category = 1) (r : Run l R n0 Q K h cells slots pc' Ls (x :: x :: st)) : Run l R n0 Q K h cells slots pc Ls (x :: st) :=
  Run.pure C (Or.inr trivial) (fun p e s m args below meth c hx hby hown hZ T locs X eT target k => by subst hp; exact XS.dup X.here hx rfl (hb hby hd) rfl hc k) r
theorem r_pop (C : Ctx l R Z own nm code maxL ret fl n0 kz K) {x : Value} (hd : decode code pc = .ok (.pop, 1)) (hp : pc + 1 = pc') (hc : x.category = 1) (r : Run l R n0 Q K h cells slots pc' Ls (st)) : Run l R n0 Q K h cells slots pc Ls (x :: st) :=
  Run.pure C (Or.inr trivial) (fun p e s m args below meth c hx hby hown hZ T locs X eT target k => by subst hp; exact XT.pop X.here hx rfl (hb hby hd) rfl hc k) r
theorem r_dup_x1 (C : Ctx l R Z own nm code maxL ret fl n0 kz K) {x y : Value} (hd : decode code pc = .ok (.dup_x1, 1)) (hp : pc + 1 = pc') (hc : x.category = 1) (hc' : y.category = 1) (r : Run l R n0 Q K h cells slots pc' Ls (x :: y :: x :: st)) : Run l R n0 Q K h cells slots pc Ls (x :: y :: st) :=
  Run.pure C (Or.inr trivial) (fun p e s m args below meth c hx hby hown hZ T locs X eT target k => by subst hp; exact XT.dupX1 X.here hx rfl (hb hby hd) rfl hc hc' k) r
theorem r_dup2 (C : Ctx l R Z own nm code maxL ret fl n0 kz K) {x y : Value} (hd : decode code pc = .ok (.dup2, 1)) (hp : pc + 1 = pc') (hc : x.category = 1) (hc' : y.category = 1) (r : Run l R n0 Q K h cells slots pc' Ls (x :: y :: x :: y :: st)) : Run l R n0 Q K h cells slots pc Ls (x :: y :: st) :=
  Run.pure C (Or.inr trivial) (fun p e s m args below meth c hx hby hown hZ T locs X eT target k => by subst hp; exact XT.dup2 X.here hx rfl (hb hby hd) rfl hc hc' k) r
theorem r_dup2L (C : Ctx l R Z own nm code maxL ret fl n0 kz K) {x : Int64} (hd : decode code pc = .ok (.dup2, 1)) (hp : pc + 1 = pc') (r : Run l R n0 Q K h cells slots pc' Ls (.long x :: .long x :: st)) : Run l R n0 Q K h cells slots pc Ls (.long x :: st) :=
  Run.pure C (Or.inr trivial) (fun p e s m args below meth c hx hby hown hZ T locs X eT target k => by subst hp; exact XT.dup2L X.here hx rfl (hb hby hd) rfl k) r
theorem r_iinc (C : Ctx l R Z own nm code maxL ret fl n0 kz K) {k : Nat} {cst : Int} {x v : Int32} (hd : decode code pc = .ok (.iinc k cst, 3)) (hp : pc + 3 = pc') (hv : Int32.ofInt cst = v) (hl : Ls[k]? = some (.val (.int x))) (hl' : storeLocals Ls k (.int (x + v)) = some Ls') (r : Run l R n0 Q K h cells slots pc' Ls' (st)) : Run l R n0 Q K h cells slots pc Ls (st) :=
  Run.pure C (Or.inr trivial) (fun p e s m args below meth c hx hby hown hZ T locs X eT target k => by subst hp; exact XT.iincV X.here hx rfl v (hb hby hd) hv hl hl' k) r
theorem r_goto (C : Ctx l R Z own nm code maxL ret fl n0 kz K) {o : Int} (hd : decode code pc = .ok (.goto o, 3)) (ho : 0 ≤ (pc : Int) + o) (hp : ((pc : Int) + o).toNat = pc') (r : Run l R n0 Q K h cells slots pc' Ls (st)) : Run l R n0 Q K h cells slots pc Ls (st) :=
  Run.pure C (Or.inr trivial) (fun p e s m args below meth c hx hby hown hZ T locs X eT target k => by exact XS.goto X.here hx rfl (pc0 := pc) rfl (hb hby hd) ho hp k) r
theorem r_icmp_eq_t (C : Ctx l R Z own nm code maxL ret fl n0 kz K) {o : Int} {x y : Int32} (hd : decode code pc = .ok (.if_icmp .eq o, 3)) (ho : 0 ≤ (pc : Int) + o) (hp : ((pc : Int) + o).toNat = pc') (q : x = y) (r : Run l R n0 Q K h cells slots pc' Ls (st)) : Run l R n0 Q K h cells slots pc Ls (.int y :: .int x :: st) :=
  Run.pure C (Or.inr trivial) (fun p e s m args below meth c hx hby hown hZ T locs X eT target k => by exact XS.icmpYes X.here hx rfl (pc0 := pc) rfl (hb hby hd) rfl (XT.ii_eq_t q) ho hp k) r
theorem r_icmp_eq_f (C : Ctx l R Z own nm code maxL ret fl n0 kz K) {o : Int} {x y : Int32} (hd : decode code pc = .ok (.if_icmp .eq o, 3)) (hp : pc + 3 = pc') (q : ¬ x = y) (r : Run l R n0 Q K h cells slots pc' Ls (st)) : Run l R n0 Q K h cells slots pc Ls (.int y :: .int x :: st) :=
  Run.pure C (Or.inr trivial) (fun p e s m args below meth c hx hby hown hZ T locs X eT target k => by subst hp; exact XS.icmpNo X.here hx rfl (hb hby hd) rfl (XT.ii_eq_f q) k) r
theorem r_icmp_eq (C : Ctx l R Z own nm code maxL ret fl n0 kz K) {o : Int} {pt : Nat} {x y : Int32} (hd : decode code pc = .ok (.if_icmp .eq o, 3)) (ho : 0 ≤ (pc : Int) + o) (hp : ((pc : Int) + o).toNat = pt) (hp' : pc + 3 = pc') (rt : x = y → Run l R n0 Q K h cells slots pt Ls st) (rf : ¬ x = y → Run l R n0 Q K h cells slots pc' Ls st) : Run l R n0 Q K h cells slots pc Ls (.int y :: .int x :: st) := by
  by_cases q : x = y
  · exact r_icmp_eq_t C hd ho hp q (rt q)
  · exact r_icmp_eq_f C hd hp' q (rf q)
theorem r_if_eq_t (C : Ctx l R Z own nm code maxL ret fl n0 kz K) {o : Int} {x : Int32} (hd : decode code pc = .ok (.ifCond .eq o, 3)) (ho : 0 ≤ (pc : Int) + o) (hp : ((pc : Int) + o).toNat = pc') (q : x = 0) (r : Run l R n0 Q K h cells slots pc' Ls (st)) : Run l R n0 Q K h cells slots pc Ls (.int x :: st) :=
  Run.pure C (Or.inr trivial) (fun p e s m args below meth c hx hby hown hZ T locs X eT target k => by exact XS.ifYes X.here hx rfl (pc0 := pc) rfl (hb hby hd) rfl (XT.i0_eq_t q) ho hp k) r
theorem r_if_eq_f (C : Ctx l R Z own nm code maxL ret fl n0 kz K) {o : Int} {x : Int32} (hd : decode code pc = .ok (.ifCond .eq o, 3)) (hp : pc + 3 = pc') (q : ¬ x = 0) (r : Run l R n0 Q K h cells slots pc' Ls (st)) : Run l R n0 Q K h cells slots pc Ls (.int x :: st) :=
  Run.pure C (Or.inr trivial) (fun p e s m args below meth c hx hby hown hZ T locs X eT target k => by subst hp; exact XS.ifNo X.here hx rfl (hb hby hd) rfl (XT.i0_eq_f q) k) r
theorem r_if_eq (C : Ctx l R Z own nm code maxL ret fl n0 kz K) {o : Int} {pt : Nat} {x : Int32} (hd : decode code pc = .ok (.ifCond .eq o, 3)) (ho : 0 ≤ (pc : Int) + o) (hp : ((pc : Int) + o).toNat = pt) (hp' : pc + 3 = pc') (rt : x = 0 → Run l R n0 Q K h cells slots pt Ls st) (rf : ¬ x = 0 → Run l R n0 Q K h cells slots pc' Ls st) : Run l R n0 Q K h cells slots pc Ls (.int x :: st) := by
  by_cases q : x = 0
  · exact r_if_eq_t C hd ho hp q (rt q)
  · exact r_if_eq_f C hd hp' q (rf q)
theorem r_lcmp_eq (C : Ctx l R Z own nm code maxL ret fl n0 kz K) {o : Int} {pt : Nat} {x y : Int64} (hd : decode code pc = .ok (.lcmp, 1)) (hd2 : decode code (pc + 1) = .ok (.ifCond .eq o, 3)) (ho : 0 ≤ ((pc + 1 : Nat) : Int) + o) (hp : (((pc + 1 : Nat) : Int) + o).toNat = pt) (hp' : pc + 4 = pc') (rt : x = y → Run l R n0 Q K h cells slots pt Ls st) (rf : ¬ x = y → Run l R n0 Q K h cells slots pc' Ls st) : Run l R n0 Q K h cells slots pc Ls (.long y :: .long x :: st) := by
  by_cases q : x = y
  · exact Run.pure C (Or.inr trivial) (fun p e s m args below meth c hx hby hown hZ T locs X eT target k => XT.lcmp X.here hx rfl (hb hby hd) rfl (XS.ifYes X.here hx rfl (pc0 := pc + 1) rfl (hb hby hd2) rfl (XT.ll_eq_t q) ho hp k)) (rt q)
  · subst hp'; exact Run.pure C (Or.inr trivial) (fun p e s m args below meth c hx hby hown hZ T locs X eT target k => XT.lcmp X.here hx rfl (hb hby hd) rfl (XS.ifNo X.here hx rfl (hb hby hd2) rfl (XT.ll_eq_f q) k)) (rf q)
theorem r_icmp_ne_t (C : Ctx l R Z own nm code maxL ret fl n0 kz K) {o : Int} {x y : Int32} (hd : decode code pc = .ok (.if_icmp .ne o, 3)) (ho : 0 ≤ (pc : Int) + o) (hp : ((pc : Int) + o).toNat = pc') (q : ¬ x = y) (r : Run l R n0 Q K h cells slots pc' Ls (st)) : Run l R n0 Q K h cells slots pc Ls (.int y :: .int x :: st) :=
  Run.pure C (Or.inr trivial) (fun p e s m args below meth c hx hby hown hZ T locs X eT target k => by exact XS.icmpYes X.here hx rfl (pc0 := pc) rfl (hb hby hd) rfl (XT.ii_ne_t q) ho hp k) r
theorem r_icmp_ne_f (C : Ctx l R Z own nm code maxL ret fl n0 kz K) {o : Int} {x y : Int32} (hd : decode code pc = .ok (.if_icmp .ne o, 3)) (hp : pc + 3 = pc') (q : x = y) (r : Run l R n0 Q K h cells slots pc' Ls (st)) : Run l R n0 Q K h cells slots pc Ls (.int y :: .int x :: st) :=
  Run.pure C (Or.inr trivial) (fun p e s m args below meth c hx hby hown hZ T locs X eT target k => by subst hp; exact XS.icmpNo X.here hx rfl (hb hby hd) rfl (XT.ii_ne_f q) k) r
theorem r_icmp_ne (C : Ctx l R Z own nm code maxL ret fl n0 kz K) {o : Int} {pt : Nat} {x y : Int32} (hd : decode code pc = .ok (.if_icmp .ne o, 3)) (ho : 0 ≤ (pc : Int) + o) (hp : ((pc : Int) + o).toNat = pt) (hp' : pc + 3 = pc') (rt : ¬ x = y → Run l R n0 Q K h cells slots pt Ls st) (rf : x = y → Run l R n0 Q K h cells slots pc' Ls st) : Run l R n0 Q K h cells slots pc Ls (.int y :: .int x :: st) := by
  by_cases q : x = y
  · exact r_icmp_ne_f C hd hp' q (rf q)
  · exact r_icmp_ne_t C hd ho hp q (rt q)
theorem r_if_ne_t (C : Ctx l R Z own nm code maxL ret fl n0 kz K) {o : Int} {x : Int32} (hd : decode code pc = .ok (.ifCond .ne o, 3)) (ho : 0 ≤ (pc : Int) + o) (hp : ((pc : Int) + o).toNat = pc') (q : ¬ x = 0) (r : Run l R n0 Q K h cells slots pc' Ls (st)) : Run l R n0 Q K h cells slots pc Ls (.int x :: st) :=
  Run.pure C (Or.inr trivial) (fun p e s m args below meth c hx hby hown hZ T locs X eT target k => by exact XS.ifYes X.here hx rfl (pc0 := pc) rfl (hb hby hd) rfl (XT.i0_ne_t q) ho hp k) r
theorem r_if_ne_f (C : Ctx l R Z own nm code maxL ret fl n0 kz K) {o : Int} {x : Int32} (hd : decode code pc = .ok (.ifCond .ne o, 3)) (hp : pc + 3 = pc') (q : x = 0) (r : Run l R n0 Q K h cells slots pc' Ls (st)) : Run l R n0 Q K h cells slots pc Ls (.int x :: st) :=
  Run.pure C (Or.inr trivial) (fun p e s m args below meth c hx hby hown hZ T locs X eT target k => by subst hp; exact XS.ifNo X.here hx rfl (hb hby hd) rfl (XT.i0_ne_f q) k) r
theorem r_if_ne (C : Ctx l R Z own nm code maxL ret fl n0 kz K) {o : Int} {pt : Nat} {x : Int32} (hd : decode code pc = .ok (.ifCond .ne o, 3)) (ho : 0 ≤ (pc : Int) + o) (hp : ((pc : Int) + o).toNat = pt) (hp' : pc + 3 = pc') (rt : ¬ x = 0 → Run l R n0 Q K h cells slots pt Ls st) (rf : x = 0 → Run l R n0 Q K h cells slots pc' Ls st) : Run l R n0 Q K h cells slots pc Ls (.int x :: st) := by
  by_cases q : x = 0
  · exact r_if_ne_f C hd hp' q (rf q)
  · exact r_if_ne_t C hd ho hp q (rt q)
theorem r_lcmp_ne (C : Ctx l R Z own nm code maxL ret fl n0 kz K) {o : Int} {pt : Nat} {x y : Int64} (hd : decode code pc = .ok (.lcmp, 1)) (hd2 : decode code (pc + 1) = .ok (.ifCond .ne o, 3)) (ho : 0 ≤ ((pc + 1 : Nat) : Int) + o) (hp : (((pc + 1 : Nat) : Int) + o).toNat = pt) (hp' : pc + 4 = pc') (rt : ¬ x = y → Run l R n0 Q K h cells slots pt Ls st) (rf : x = y → Run l R n0 Q K h cells slots pc' Ls st) : Run l R n0 Q K h cells slots pc Ls (.long y :: .long x :: st) := by
  by_cases q : x = y
  · subst hp'; exact Run.pure C (Or.inr trivial) (fun p e s m args below meth c hx hby hown hZ T locs X eT target k => XT.lcmp X.here hx rfl (hb hby hd) rfl (XS.ifNo X.here hx rfl (hb hby hd2) rfl (XT.ll_ne_f q) k)) (rf q)
  · exact Run.pure C (Or.inr trivial) (fun p e s m args below meth c hx hby hown hZ T locs X eT target k => XT.lcmp X.here hx rfl (hb hby hd) rfl (XS.ifYes X.here hx rfl (pc0 := pc + 1) rfl (hb hby hd2) rfl (XT.ll_ne_t q) ho hp k)) (rt q)
theorem r_icmp_lt_t (C : Ctx l R Z own nm code maxL ret fl n0 kz K) {o : Int} {x y : Int32} (hd : decode code pc = .ok (.if_icmp .lt o, 3)) (ho : 0 ≤ (pc : Int) + o) (hp : ((pc : Int) + o).toNat = pc') (q : x < y) (r : Run l R n0 Q K h cells slots pc' Ls (st)) : Run l R n0 Q K h cells slots pc Ls (.int y :: .int x :: st) :=
  Run.pure C (Or.inr trivial) (fun p e s m args below meth c hx hby hown hZ T locs X eT target k => by exact XS.icmpYes X.here hx rfl (pc0 := pc) rfl (hb hby hd) rfl (XT.ii_lt_t q) ho hp k) r
theorem r_icmp_lt_f (C : Ctx l R Z own nm code maxL ret fl n0 kz K) {o : Int} {x y : Int32} (hd : decode code pc = .ok (.if_icmp .lt o, 3)) (hp : pc + 3 = pc') (q : ¬ x < y) (r : Run l R n0 Q K h cells slots pc' Ls (st)) : Run l R n0 Q K h cells slots pc Ls (.int y :: .int x :: st) :=
  Run.pure C (Or.inr trivial) (fun p e s m args below meth c hx hby hown hZ T locs X eT target k => by subst hp; exact XS.icmpNo X.here hx rfl (hb hby hd) rfl (XT.ii_lt_f q) k) r
theorem r_icmp_lt (C : Ctx l R Z own nm code maxL ret fl n0 kz K) {o : Int} {pt : Nat} {x y : Int32} (hd : decode code pc = .ok (.if_icmp .lt o, 3)) (ho : 0 ≤ (pc : Int) + o) (hp : ((pc : Int) + o).toNat = pt) (hp' : pc + 3 = pc') (rt : x < y → Run l R n0 Q K h cells slots pt Ls st) (rf : ¬ x < y → Run l R n0 Q K h cells slots pc' Ls st) : Run l R n0 Q K h cells slots pc Ls (.int y :: .int x :: st) := by
  by_cases q : x < y
  · exact r_icmp_lt_t C hd ho hp q (rt q)
  · exact r_icmp_lt_f C hd hp' q (rf q)
theorem r_if_lt_t (C : Ctx l R Z own nm code maxL ret fl n0 kz K) {o : Int} {x : Int32} (hd : decode code pc = .ok (.ifCond .lt o, 3)) (ho : 0 ≤ (pc : Int) + o) (hp : ((pc : Int) + o).toNat = pc') (q : x < 0) (r : Run l R n0 Q K h cells slots pc' Ls (st)) : Run l R n0 Q K h cells slots pc Ls (.int x :: st) :=
  Run.pure C (Or.inr trivial) (fun p e s m args below meth c hx hby hown hZ T locs X eT target k => by exact XS.ifYes X.here hx rfl (pc0 := pc) rfl (hb hby hd) rfl (XT.i0_lt_t q) ho hp k) r
theorem r_if_lt_f (C : Ctx l R Z own nm code maxL ret fl n0 kz K) {o : Int} {x : Int32} (hd : decode code pc = .ok (.ifCond .lt o, 3)) (hp : pc + 3 = pc') (q : ¬ x < 0) (r : Run l R n0 Q K h cells slots pc' Ls (st)) : Run l R n0 Q K h cells slots pc Ls (.int x :: st) :=
  Run.pure C (Or.inr trivial) (fun p e s m args below meth c hx hby hown hZ T locs X eT target k => by subst hp; exact XS.ifNo X.here hx rfl (hb hby hd) rfl (XT.i0_lt_f q) k) r
theorem r_if_lt (C : Ctx l R Z own nm code maxL ret fl n0 kz K) {o : Int} {pt : Nat} {x : Int32} (hd : decode code pc = .ok (.ifCond .lt o, 3)) (ho : 0 ≤ (pc : Int) + o) (hp : ((pc : Int) + o).toNat = pt) (hp' : pc + 3 = pc') (rt : x < 0 → Run l R n0 Q K h cells slots pt Ls st) (rf : ¬ x < 0 → Run l R n0 Q K h cells slots pc' Ls st) : Run l R n0 Q K h cells slots pc Ls (.int x :: st) := by
  by_cases q : x < 0
  · exact r_if_lt_t C hd ho hp q (rt q)
  · exact r_if_lt_f C hd hp' q (rf q)
theorem r_lcmp_lt (C : Ctx l R Z own nm code maxL ret fl n0 kz K) {o : Int} {pt : Nat} {x y : Int64} (hd : decode code pc = .ok (.lcmp, 1)) (hd2 : decode code (pc + 1) = .ok (.ifCond .lt o, 3)) (ho : 0 ≤ ((pc + 1 : Nat) : Int) + o) (hp : (((pc + 1 : Nat) : Int) + o).toNat = pt) (hp' : pc + 4 = pc') (rt : x < y → Run l R n0 Q K h cells slots pt Ls st) (rf : ¬ x < y → Run l R n0 Q K h cells slots pc' Ls st) : Run l R n0 Q K h cells slots pc Ls (.long y :: .long x :: st) := by
  by_cases q : x < y
  · exact Run.pure C (Or.inr trivial) (fun p e s m args below meth c hx hby hown hZ T locs X eT target k => XT.lcmp X.here hx rfl (hb hby hd) rfl (XS.ifYes X.here hx rfl (pc0 := pc + 1) rfl (hb hby hd2) rfl (XT.ll_lt_t q) ho hp k)) (rt q)
  · subst hp'; exact Run.pure C (Or.inr trivial) (fun p e s m args below meth c hx hby hown hZ T locs X eT target k => XT.lcmp X.here hx rfl (hb hby hd) rfl (XS.ifNo X.here hx rfl (hb hby hd2) rfl (XT.ll_lt_f q) k)) (rf q)
theorem r_icmp_ge_t (C : Ctx l R Z own nm code maxL ret fl n0 kz K) {o : Int} {x y : Int32} (hd : decode code pc = .ok (.if_icmp .ge o, 3)) (ho : 0 ≤ (pc : Int) + o) (hp : ((pc : Int) + o).toNat = pc') (q : ¬ x < y) (r : Run l R n0 Q K h cells slots pc' Ls (st)) : Run l R n0 Q K h cells slots pc Ls (.int y :: .int x :: st) :=
  Run.pure C (Or.inr trivial) (fun p e s m args below meth c hx hby hown hZ T locs X eT target k => by exact XS.icmpYes X.here hx rfl (pc0 := pc) rfl (hb hby hd) rfl (XT.ii_ge_t q) ho hp k) r
theorem r_icmp_ge_f (C : Ctx l R Z own nm code maxL ret fl n0 kz K) {o : Int} {x y : Int32} (hd : decode code pc = .ok (.if_icmp .ge o, 3)) (hp : pc + 3 = pc') (q : x < y) (r : Run l R n0 Q K h cells slots pc' Ls (st)) : Run l R n0 Q K h cells slots pc Ls (.int y :: .int x :: st) :=
  Run.pure C (Or.inr trivial) (fun p e s m args below meth c hx hby hown hZ T locs X eT target k => by subst hp; exact XS.icmpNo X.here hx rfl (hb hby hd) rfl (XT.ii_ge_f q) k) r
theorem r_icmp_ge (C : Ctx l R Z own nm code maxL ret fl n0 kz K) {o : Int} {pt : Nat} {x y : Int32} (hd : decode code pc = .ok (.if_icmp .ge o, 3)) (ho : 0 ≤ (pc : Int) + o) (hp : ((pc : Int) + o).toNat = pt) (hp' : pc + 3 = pc') (rt : ¬ x < y → Run l R n0 Q K h cells slots pt Ls st) (rf : x < y → Run l R n0 Q K h cells slots pc' Ls st) : Run l R n0 Q K h cells slots pc Ls (.int y :: .int x :: st) := by
  by_cases q : x < y
  · exact r_icmp_ge_f C hd hp' q (rf q)
  · exact r_icmp_ge_t C hd ho hp q (rt q)
theorem r_if_ge_t (C : Ctx l R Z own nm code maxL ret fl n0 kz K) {o : Int} {x : Int32} (hd : decode code pc = .ok (.ifCond .ge o, 3)) (ho : 0 ≤ (pc : Int) + o) (hp : ((pc : Int) + o).toNat = pc') (q : ¬ x < 0) (r : Run l R n0 Q K h cells slots pc' Ls (st)) : Run l R n0 Q K h cells slots pc Ls (.int x :: st) :=
  Run.pure C (Or.inr trivial) (fun p e s m args below meth c hx hby hown hZ T locs X eT target k => by exact XS.ifYes X.here hx rfl (pc0 := pc) rfl (hb hby hd) rfl (XT.i0_ge_t q) ho hp k) r
theorem r_if_ge_f (C : Ctx l R Z own nm code maxL ret fl n0 kz K) {o : Int} {x : Int32} (hd : decode code pc = .ok (.ifCond .ge o, 3)) (hp : pc + 3 = pc') (q : x < 0) (r : Run l R n0 Q K h cells slots pc' Ls (st)) : Run l R n0 Q K h cells slots pc Ls (.int x :: st) :=
  Run.pure C (Or.inr trivial) (fun p e s m args below meth c hx hby hown hZ T locs X eT target k => by subst hp; exact XS.ifNo X.here hx rfl (hb hby hd) rfl (XT.i0_ge_f q) k) r
theorem r_if_ge (C : Ctx l R Z own nm code maxL ret fl n0 kz K) {o : Int} {pt : Nat} {x : Int32} (hd : decode code pc = .ok (.ifCond .ge o, 3)) (ho : 0 ≤ (pc : Int) + o) (hp : ((pc : Int) + o).toNat = pt) (hp' : pc + 3 = pc') (rt : ¬ x < 0 → Run l R n0 Q K h cells slots pt Ls st) (rf : x < 0 → Run l R n0 Q K h cells slots pc' Ls st) : Run l R n0 Q K h cells slots pc Ls (.int x :: st) := by
  by_cases q : x < 0
  · exact r_if_ge_f C hd hp' q (rf q)
  · exact r_if_ge_t C hd ho hp q (rt q)
theorem r_lcmp_ge (C : Ctx l R Z own nm code maxL ret fl n0 kz K) {o : Int} {pt : Nat} {x y : Int64} (hd : decode code pc = .ok (.lcmp, 1)) (hd2 : decode code (pc + 1) = .ok (.ifCond .ge o, 3)) (ho : 0 ≤ ((pc + 1 : Nat) : Int) + o) (hp : (((pc + 1 : Nat) : Int) + o).toNat = pt) (hp' : pc + 4 = pc') (rt : ¬ x < y → Run l R n0 Q K h cells slots pt Ls st) (rf : x < y → Run l R n0 Q K h cells slots pc' Ls st) : Run l R n0 Q K h cells slots pc Ls (.long y :: .long x :: st) := by
  by_cases q : x < y
  · subst hp'; exact Run.pure C (Or.inr trivial) (fun p e s m args below meth c hx hby hown hZ T locs X eT target k => XT.lcmp X.here hx rfl (hb hby hd) rfl (XS.ifNo X.here hx rfl (hb hby hd2) rfl (XT.ll_ge_f q) k)) (rf q)
  · exact Run.pure C (Or.inr trivial) (fun p e s m args below meth c hx hby hown hZ T locs X eT target k => XT.lcmp X.here hx rfl (hb hby hd) rfl (XS.ifYes X.here hx rfl (pc0 := pc + 1) rfl (hb hby hd2) rfl (XT.ll_ge_t q) ho hp k)) (rt q)
theorem r_icmp_gt_t (C : Ctx l R Z own nm code maxL ret fl n0 kz K) {o : Int} {x y : Int32} (hd : decode code pc = .ok (.if_icmp .gt o, 3)) (ho : 0 ≤ (pc : Int) + o) (hp : ((pc : Int) + o).toNat = pc') (q : y < x) (r : Run l R n0 Q K h cells slots pc' Ls (st)) : Run l R n0 Q K h cells slots pc Ls (.int y :: .int x :: st) :=
  Run.pure C (Or.inr trivial) (fun p e s m args below meth c hx hby hown hZ T locs X eT target k => by exact XS.icmpYes X.here hx rfl (pc0 := pc) rfl (hb hby hd) rfl (XT.ii_gt_t q) ho hp k) r
theorem r_icmp_gt_f (C : Ctx l R Z own nm code maxL ret fl n0 kz K) {o : Int} {x y : Int32} (hd : decode code pc = .ok (.if_icmp .gt o, 3)) (hp : pc + 3 = pc') (q : ¬ y < x) (r : Run l R n0 Q K h cells slots pc' Ls (st)) : Run l R n0 Q K h cells slots pc Ls (.int y :: .int x :: st) :=
  Run.pure C (Or.inr trivial) (fun p e s m args below meth c hx hby hown hZ T locs X eT target k => by subst hp; exact XS.icmpNo X.here hx rfl (hb hby hd) rfl (XT.ii_gt_f q) k) r
theorem r_icmp_gt (C : Ctx l R Z own nm code maxL ret fl n0 kz K) {o : Int} {pt : Nat} {x y : Int32} (hd : decode code pc = .ok (.if_icmp .gt o, 3)) (ho : 0 ≤ (pc : Int) + o) (hp : ((pc : Int) + o).toNat = pt) (hp' : pc + 3 = pc') (rt : y < x → Run l R n0 Q K h cells slots pt Ls st) (rf : ¬ y < x → Run l R n0 Q K h cells slots pc' Ls st) : Run l R n0 Q K h cells slots pc Ls (.int y :: .int x :: st) := by
  by_cases q : y < x
  · exact r_icmp_gt_t C hd ho hp q (rt q)
  · exact r_icmp_gt_f C hd hp' q (rf q)
theorem r_if_gt_t (C : Ctx l R Z own nm code maxL ret fl n0 kz K) {o : Int} {x : Int32} (hd : decode code pc = .ok (.ifCond .gt o, 3)) (ho : 0 ≤ (pc : Int) + o) (hp : ((pc : Int) + o).toNat = pc') (q : 0 < x) (r : Run l R n0 Q K h cells slots pc' Ls (st)) : Run l R n0 Q K h cells slots pc Ls (.int x :: st) :=
  Run.pure C (Or.inr trivial) (fun p e s m args below meth c hx hby hown hZ T locs X eT target k => by exact XS.ifYes X.here hx rfl (pc0 := pc) rfl (hb hby hd) rfl (XT.i0_gt_t q) ho hp k) r
theorem r_if_gt_f (C : Ctx l R Z own nm code maxL ret fl n0 kz K) {o : Int} {x : Int32} (hd : decode code pc = .ok (.ifCond .gt o, 3)) (hp : pc + 3 = pc') (q : ¬ 0 < x) (r : Run l R n0 Q K h cells slots pc' Ls (st)) : Run l R n0 Q K h cells slots pc Ls (.int x :: st) :=
  Run.pure C (Or.inr trivial) (fun p e s m args below meth c hx hby hown hZ T locs X eT target k => by subst hp; exact XS.ifNo X.here hx rfl (hb hby hd) rfl (XT.i0_gt_f q) k) r
theorem r_if_gt (C : Ctx l R Z own nm code maxL ret fl n0 kz K) {o : Int} {pt : Nat} {x : Int32} (hd : decode code pc = .ok (.ifCond .gt o, 3)) (ho : 0 ≤ (pc : Int) + o) (hp : ((pc : Int) + o).toNat = pt) (hp' : pc + 3 = pc') (rt : 0 < x → Run l R n0 Q K h cells slots pt Ls st) (rf : ¬ 0 < x → Run l R n0 Q K h cells slots pc' Ls st) : Run l R n0 Q K h cells slots pc Ls (.int x :: st) := by
  by_cases q : 0 < x
  · exact r_if_gt_t C hd ho hp q (rt q)
  · exact r_if_gt_f C hd hp' q (rf q)
theorem r_lcmp_gt (C : Ctx l R Z own nm code maxL ret fl n0 kz K) {o : Int} {pt : Nat} {x y : Int64} (hd : decode code pc = .ok (.lcmp, 1)) (hd2 : decode code (pc + 1) = .ok (.ifCond .gt o, 3)) (ho : 0 ≤ ((pc + 1 : Nat) : Int) + o) (hp : (((pc + 1 : Nat) : Int) + o).toNat = pt) (hp' : pc + 4 = pc') (rt : y < x → Run l R n0 Q K h cells slots pt Ls st) (rf : ¬ y < x → Run l R n0 Q K h cells slots pc' Ls st) : Run l R n0 Q K h cells slots pc Ls (.long y :: .long x :: st) := by
  by_cases q : y < x
  · exact Run.pure C (Or.inr trivial) (fun p e s m args below meth c hx hby hown hZ T locs X eT target k => XT.lcmp X.here hx rfl (hb hby hd) rfl (XS.ifYes X.here hx rfl (pc0 := pc + 1) rfl (hb hby hd2) rfl (XT.ll_gt_t q) ho hp k)) (rt q)
  · subst hp'; exact Run.pure C (Or.inr trivial) (fun p e s m args below meth c hx hby hown hZ T locs X eT target k => XT.lcmp X.here hx rfl (hb hby hd) rfl (XS.ifNo X.here hx rfl (hb hby hd2) rfl (XT.ll_gt_f q) k)) (rf q)
theorem r_icmp_le_t (C : Ctx l R Z own nm code maxL ret fl n0 kz K) {o : Int} {x y : Int32} (hd : decode code pc = .ok (.if_icmp .le o, 3)) (ho : 0 ≤ (pc : Int) + o) (hp : ((pc : Int) + o).toNat = pc') (q : ¬ y < x) (r : Run l R n0 Q K h cells slots pc' Ls (st)) : Run l R n0 Q K h cells slots pc Ls (.int y :: .int x :: st) :=
  Run.pure C (Or.inr trivial) (fun p e s m args below meth c hx hby hown hZ T locs X eT target k => by exact XS.icmpYes X.here hx rfl (pc0 := pc) rfl (hb hby hd) rfl (XT.ii_le_t q) ho hp k) r
theorem r_icmp_le_f (C : Ctx l R Z own nm code maxL ret fl n0 kz K) {o : Int} {x y : Int32} (hd : decode code pc = .ok (.if_icmp .le o, 3)) (hp : pc + 3 = pc') (q : y < x) (r : Run l R n0 Q K h cells slots pc' Ls (st)) : Run l R n0 Q K h cells slots pc Ls (.int y :: .int x :: st) :=
  Run.pure C (Or.inr trivial) (fun p e s m args below meth c hx hby hown hZ T locs X eT target k => by subst hp; exact XS.icmpNo X.here hx rfl (hb hby hd) rfl (XT.ii_le_f q) k) r
theorem r_icmp_le (C : Ctx l R Z own nm code maxL ret fl n0 kz K) {o : Int} {pt : Nat} {x y : Int32} (hd : decode code pc = .ok (.if_icmp .le o, 3)) (ho : 0 ≤ (pc : Int) + o) (hp : ((pc : Int) + o).toNat = pt) (hp' : pc + 3 = pc') (rt : ¬ y < x → Run l R n0 Q K h cells slots pt Ls st) (rf : y < x → Run l R n0 Q K h cells slots pc' Ls st) : Run l R n0 Q K h cells slots pc Ls (.int y :: .int x :: st) := by
  by_cases q : y < x
  · exact r_icmp_le_f C hd hp' q (rf q)
  · exact r_icmp_le_t C hd ho hp q (rt q)
theorem r_if_le_t (C : Ctx l R Z own nm code maxL ret fl n0 kz K) {o : Int} {x : Int32} (hd : decode code pc = .ok (.ifCond .le o, 3)) (ho : 0 ≤ (pc : Int) + o) (hp : ((pc : Int) + o).toNat = pc') (q : ¬ 0 < x) (r : Run l R n0 Q K h cells slots pc' Ls (st)) : Run l R n0 Q K h cells slots pc Ls (.int x :: st) :=
  Run.pure C (Or.inr trivial) (fun p e s m args below meth c hx hby hown hZ T locs X eT target k => by exact XS.ifYes X.here hx rfl (pc0 := pc) rfl (hb hby hd) rfl (XT.i0_le_t q) ho hp k) r
theorem r_if_le_f (C : Ctx l R Z own nm code maxL ret fl n0 kz K) {o : Int} {x : Int32} (hd : decode code pc = .ok (.ifCond .le o, 3)) (hp : pc + 3 = pc') (q : 0 < x) (r : Run l R n0 Q K h cells slots pc' Ls (st)) : Run l R n0 Q K h cells slots pc Ls (.int x :: st) :=
  Run.pure C (Or.inr trivial) (fun p e s m args below meth c hx hby hown hZ T locs X eT target k => by subst hp; exact XS.ifNo X.here hx rfl (hb hby hd) rfl (XT.i0_le_f q) k) r
theorem r_if_le (C : Ctx l R Z own nm code maxL ret fl n0 kz K) {o : Int} {pt : Nat} {x : Int32} (hd : decode code pc = .ok (.ifCond .le o, 3)) (ho : 0 ≤ (pc : Int) + o) (hp : ((pc : Int) + o).toNat = pt) (hp' : pc + 3 = pc') (rt : ¬ 0 < x → Run l R n0 Q K h cells slots pt Ls st) (rf : 0 < x → Run l R n0 Q K h cells slots pc' Ls st) : Run l R n0 Q K h cells slots pc Ls (.int x :: st) := by
  by_cases q : 0 < x
  · exact r_if_le_f C hd hp' q (rf q)
  · exact r_if_le_t C hd ho hp q (rt q)
theorem r_lcmp_le (C : Ctx l R Z own nm code maxL ret fl n0 kz K) {o : Int} {pt : Nat} {x y : Int64} (hd : decode code pc = .ok (.lcmp, 1)) (hd2 : decode code (pc + 1) = .ok (.ifCond .le o, 3)) (ho : 0 ≤ ((pc + 1 : Nat) : Int) + o) (hp : (((pc + 1 : Nat) : Int) + o).toNat = pt) (hp' : pc + 4 = pc') (rt : ¬ y < x → Run l R n0 Q K h cells slots pt Ls st) (rf : y < x → Run l R n0 Q K h cells slots pc' Ls st) : Run l R n0 Q K h cells slots pc Ls (.long y :: .long x :: st) := by
  by_cases q : y < x
  · subst hp'; exact Run.pure C (Or.inr trivial) (fun p e s m args below meth c hx hby hown hZ T locs X eT target k => XT.lcmp X.here hx rfl (hb hby hd) rfl (XS.ifNo X.here hx rfl (hb hby hd2) rfl (XT.ll_le_f q) k)) (rf q)
  · exact Run.pure C (Or.inr trivial) (fun p e s m args below meth c hx hby hown hZ T locs X eT target k => XT.lcmp X.here hx rfl (hb hby hd) rfl (XS.ifYes X.here hx rfl (pc0 := pc + 1) rfl (hb hby hd2) rfl (XT.ll_le_t q) ho hp k)) (rt q)
theorem r_ifnull_t (C : Ctx l R Z own nm code maxL ret fl n0 kz K) {o : Int} {v : Value} (hd : decode code pc = .ok (.ifnull o, 3)) (ho : 0 ≤ (pc : Int) + o) (hp : ((pc : Int) + o).toNat = pc') (hv : v.isRef = true) (q : v = .null) (r : Run l R n0 Q K h cells slots pc' Ls (st)) : Run l R n0 Q K h cells slots pc Ls (v :: st) :=
  Run.pure C (Or.inr trivial) (fun p e s m args below meth c hx hby hown hZ T locs X eT target k => by exact XT.nullYes X.here hx rfl (pc0 := pc) rfl (hb hby hd) rfl q ho hp k) r
theorem r_ifnull_f (C : Ctx l R Z own nm code maxL ret fl n0 kz K) {o : Int} {v : Value} (hd : decode code pc = .ok (.ifnull o, 3)) (hp : pc + 3 = pc') (hv : v.isRef = true) (q : ¬ v = .null) (r : Run l R n0 Q K h cells slots pc' Ls (st)) : Run l R n0 Q K h cells slots pc Ls (v :: st) :=
  Run.pure C (Or.inr trivial) (fun p e s m args below meth c hx hby hown hZ T locs X eT target k => by subst hp; exact XT.nullNo X.here hx rfl (hb hby hd) rfl hv q k) r
theorem r_ifnonnull_t (C : Ctx l R Z own nm code maxL ret fl n0 kz K) {o : Int} {v : Value} (hd : decode code pc = .ok (.ifnonnull o, 3)) (ho : 0 ≤ (pc : Int) + o) (hp : ((pc : Int) + o).toNat = pc') (hv : v.isRef = true) (q : ¬ v = .null) (r : Run l R n0 Q K h cells slots pc' Ls (st)) : Run l R n0 Q K h cells slots pc Ls (v :: st) :=
  Run.pure C (Or.inr trivial) (fun p e s m args below meth c hx hby hown hZ T locs X eT target k => by exact XT.nonnullYes X.here hx rfl (pc0 := pc) rfl (hb hby hd) rfl hv q ho hp k) r
theorem r_ifnonnull_f (C : Ctx l R Z own nm code maxL ret fl n0 kz K) {o : Int} {v : Value} (hd : decode code pc = .ok (.ifnonnull o, 3)) (hp : pc + 3 = pc') (hv : v.isRef = true) (q : v = .null) (r : Run l R n0 Q K h cells slots pc' Ls (st)) : Run l R n0 Q K h cells slots pc Ls (v :: st) :=
  Run.pure C (Or.inr trivial) (fun p e s m args below meth c hx hby hown hZ T locs X eT target k => by subst hp; exact XT.nonnullNo X.here hx rfl (hb hby hd) rfl q k) r
theorem r_acmp_eq_t (C : Ctx l R Z own nm code maxL ret fl n0 kz K) {o : Int} {x y : Value} (hd : decode code pc = .ok (.if_acmp .eq o, 3)) (ho : 0 ≤ (pc : Int) + o) (hp : ((pc : Int) + o).toNat = pc') (hvx : x.isRef = true) (hvy : y.isRef = true) (q : x = y) (r : Run l R n0 Q K h cells slots pc' Ls (st)) : Run l R n0 Q K h cells slots pc Ls (y :: x :: st) :=
  Run.pure C (Or.inr trivial) (fun p e s m args below meth c hx hby hown hZ T locs X eT target k => by exact XT.acmpYes X.here hx rfl (pc0 := pc) rfl (hb hby hd) rfl hvx hvy (XT.aa_eq_t q) ho hp k) r
theorem r_acmp_eq_f (C : Ctx l R Z own nm code maxL ret fl n0 kz K) {o : Int} {x y : Value} (hd : decode code pc = .ok (.if_acmp .eq o, 3)) (hp : pc + 3 = pc') (hvx : x.isRef = true) (hvy : y.isRef = true) (q : ¬ x = y) (r : Run l R n0 Q K h cells slots pc' Ls (st)) : Run l R n0 Q K h cells slots pc Ls (y :: x :: st) :=
  Run.pure C (Or.inr trivial) (fun p e s m args below meth c hx hby hown hZ T locs X eT target k => by subst hp; exact XT.acmpNo X.here hx rfl (hb hby hd) rfl hvx hvy (XT.aa_eq_f q) k) r
theorem r_acmp_ne_t (C : Ctx l R Z own nm code maxL ret fl n0 kz K) {o : Int} {x y : Value} (hd : decode code pc = .ok (.if_acmp .ne o, 3)) (ho : 0 ≤ (pc : Int) + o) (hp : ((pc : Int) + o).toNat = pc') (hvx : x.isRef = true) (hvy : y.isRef = true) (q : ¬ x = y) (r : Run l R n0 Q K h cells slots pc' Ls (st)) : Run l R n0 Q K h cells slots pc Ls (y :: x :: st) :=
  Run.pure C (Or.inr trivial) (fun p e s m args below meth c hx hby hown hZ T locs X eT target k => by exact XT.acmpYes X.here hx rfl (pc0 := pc) rfl (hb hby hd) rfl hvx hvy (XT.aa_ne_t q) ho hp k) r
theorem r_acmp_ne_f (C : Ctx l R Z own nm code maxL ret fl n0 kz K) {o : Int} {x y : Value} (hd : decode code pc = .ok (.if_acmp .ne o, 3)) (hp : pc + 3 = pc') (hvx : x.isRef = true) (hvy : y.isRef = true) (q : x = y) (r : Run l R n0 Q K h cells slots pc' Ls (st)) : Run l R n0 Q K h cells slots pc Ls (y :: x :: st) :=
  Run.pure C (Or.inr trivial) (fun p e s m args below meth c hx hby hown hZ T locs X eT target k => by subst hp; exact XT.acmpNo X.here hx rfl (hb hby hd) rfl hvx hvy (XT.aa_ne_f q) k) r
theorem r_ldcI (C : Ctx l R Z own nm code maxL ret fl n0 kz K) {idx : Nat} {v : Int32} (hd : decode code pc = .ok (.ldc idx, 2)) (hp : pc + 2 = pc') (w : (Jvm.Cond.constant own idx v).before a0 Z = true) (r : Run l R n0 Q K h cells slots pc' Ls (.int v :: st)) : Run l R n0 Q K h cells slots pc Ls (st) :=
  Run.pure C (Or.inr trivial) (fun p e s m args below meth c hx hby hown hZ T locs X eT target k => by subst hp; exact X.ldcI hx hown (mvT hZ w) rfl (hb hby hd) k) r
theorem r_ldcWI (C : Ctx l R Z own nm code maxL ret fl n0 kz K) {idx : Nat} {v : Int32} (hd : decode code pc = .ok (.ldc_w idx, 3)) (hp : pc + 3 = pc') (w : (Jvm.Cond.constant own idx v).before a0 Z = true) (r : Run l R n0 Q K h cells slots pc' Ls (.int v :: st)) : Run l R n0 Q K h cells slots pc Ls (st) :=
  Run.pure C (Or.inr trivial) (fun p e s m args below meth c hx hby hown hZ T locs X eT target k => by subst hp; exact X.ldcWI hx hown (mvT hZ w) rfl (hb hby hd) k) r
theorem r_ldc2J (C : Ctx l R Z own nm code maxL ret fl n0 kz K) {idx : Nat} {v : Int64} (hd : decode code pc = .ok (.ldc2_w idx, 3)) (hp : pc + 3 = pc') (w : (Jvm.Cond.constantLong own idx v).before a0 Z = true) (r : Run l R n0 Q K h cells slots pc' Ls (.long v :: st)) : Run l R n0 Q K h cells slots pc Ls (st) :=
  Run.pure C (Or.inr trivial) (fun p e s m args below meth c hx hby hown hZ T locs X eT target k => by subst hp; exact X.ldc2J hx hown (mvT hZ w) rfl (hb hby hd) k) r
/-- a place inside an array -/
def Inb (j z : Int32) : Prop := ¬ j < 0 ∧ j < z
theorem r_arraylength (C : Ctx l R Z own nm code maxL ret fl n0 kz K) {a : Addr} {k : ClassId} {ty : FieldType} {z : Int32} {vs : List Value} {dv : Value} (hd : decode code pc = .ok (.arraylength, 1)) (hp : pc + 1 = pc') (A : Arv Z h a k ty z vs dv) (r : Run l R n0 Q K h cells slots pc' Ls (.int z :: st)) : Run l R n0 Q K h cells slots pc Ls (.ref a :: st) :=
  Run.pure C (Or.inr trivial) (fun p e s m args below meth c hx hby hown hZ T locs X eT target kk => by
    subst hp
    obtain ⟨cl, Ar, q1, S, N, H, G⟩ := A
    refine X.arraylength hx (by rw [eT]; exact Ar.1) (State.isArrayOf_alike hZ.alike Ar.2.1) (g := mkF m pc Ls (.ref a :: st)) rfl rfl (hb hby hd) _ ?_
    rw [len_of S N]; exact kk) r
theorem r_iaload (C : Ctx l R Z own nm code maxL ret fl n0 kz K) {a : Addr} {k : ClassId} {z j : Int32} {vs : List Value} {dv v : Value} (hd : decode code pc = .ok (.iaload, 1)) (hp : pc + 1 = pc') (A : Arv Z h a k .int z vs dv) (hj : Inb j z) (hv : vs.getD j.toNatClampNeg dv = v) (r : Run l R n0 Q K h cells slots pc' Ls (v :: st)) : Run l R n0 Q K h cells slots pc Ls (.int j :: .ref a :: st) :=
  Run.pure C (Or.inr trivial) (fun p e s m args below meth c hx hby hown hZ T locs X eT target kk => by
    subst hp
    obtain ⟨cl, Ar, q1, S, N, H, G⟩ := A
    have hin := inb_of S hj
    exact X.iaload hx (by rw [eT]; exact Ar.1) (State.isArrayOf_alike hZ.alike Ar.2.1) Ar.2.2 hin (H.at hin hv) (g := mkF m pc Ls (.int j :: .ref a :: st)) rfl rfl (hb hby hd) _ kk) r
theorem r_laload (C : Ctx l R Z own nm code maxL ret fl n0 kz K) {a : Addr} {k : ClassId} {z j : Int32} {vs : List Value} {dv v : Value} (hd : decode code pc = .ok (.laload, 1)) (hp : pc + 1 = pc') (A : Arv Z h a k .long z vs dv) (hj : Inb j z) (hv : vs.getD j.toNatClampNeg dv = v) (r : Run l R n0 Q K h cells slots pc' Ls (v :: st)) : Run l R n0 Q K h cells slots pc Ls (.int j :: .ref a :: st) :=
  Run.pure C (Or.inr trivial) (fun p e s m args below meth c hx hby hown hZ T locs X eT target kk => by
    subst hp
    obtain ⟨cl, Ar, q1, S, N, H, G⟩ := A
    have hin := inb_of S hj
    exact X.laload hx (by rw [eT]; exact Ar.1) (State.isArrayOf_alike hZ.alike Ar.2.1) Ar.2.2 hin (H.at hin hv) (g := mkF m pc Ls (.int j :: .ref a :: st)) rfl rfl (hb hby hd) _ kk) r
theorem r_caload (C : Ctx l R Z own nm code maxL ret fl n0 kz K) {a : Addr} {k : ClassId} {z j : Int32} {vs : List Value} {dv v : Value} (hd : decode code pc = .ok (.caload, 1)) (hp : pc + 1 = pc') (A : Arv Z h a k .char z vs dv) (hj : Inb j z) (hv : vs.getD j.toNatClampNeg dv = v) (r : Run l R n0 Q K h cells slots pc' Ls (v :: st)) : Run l R n0 Q K h cells slots pc Ls (.int j :: .ref a :: st) :=
  Run.pure C (Or.inr trivial) (fun p e s m args below meth c hx hby hown hZ T locs X eT target kk => by
    subst hp
    obtain ⟨cl, Ar, q1, S, N, H, G⟩ := A
    have hin := inb_of S hj
    exact X.caload hx (by rw [eT]; exact Ar.1) (State.isArrayOf_alike hZ.alike Ar.2.1) Ar.2.2 hin (H.at hin hv) (g := mkF m pc Ls (.int j :: .ref a :: st)) rfl rfl (hb hby hd) _ kk) r
theorem r_saload (C : Ctx l R Z own nm code maxL ret fl n0 kz K) {a : Addr} {k : ClassId} {z j : Int32} {vs : List Value} {dv v : Value} (hd : decode code pc = .ok (.saload, 1)) (hp : pc + 1 = pc') (A : Arv Z h a k .short z vs dv) (hj : Inb j z) (hv : vs.getD j.toNatClampNeg dv = v) (r : Run l R n0 Q K h cells slots pc' Ls (v :: st)) : Run l R n0 Q K h cells slots pc Ls (.int j :: .ref a :: st) :=
  Run.pure C (Or.inr trivial) (fun p e s m args below meth c hx hby hown hZ T locs X eT target kk => by
    subst hp
    obtain ⟨cl, Ar, q1, S, N, H, G⟩ := A
    have hin := inb_of S hj
    exact X.saload hx (by rw [eT]; exact Ar.1) (State.isArrayOf_alike hZ.alike Ar.2.1) Ar.2.2 hin (H.at hin hv) (g := mkF m pc Ls (.int j :: .ref a :: st)) rfl rfl (hb hby hd) _ kk) r
theorem r_baload (C : Ctx l R Z own nm code maxL ret fl n0 kz K) {a : Addr} {k : ClassId} {z j : Int32} {vs : List Value} {dv v : Value} (hd : decode code pc = .ok (.baload, 1)) (hp : pc + 1 = pc') (A : Arv Z h a k .byte z vs dv) (hj : Inb j z) (hv : vs.getD j.toNatClampNeg dv = v) (r : Run l R n0 Q K h cells slots pc' Ls (v :: st)) : Run l R n0 Q K h cells slots pc Ls (.int j :: .ref a :: st) :=
  Run.pure C (Or.inr trivial) (fun p e s m args below meth c hx hby hown hZ T locs X eT target kk => by
    subst hp
    obtain ⟨cl, Ar, q1, S, N, H, G⟩ := A
    have hin := inb_of S hj
    exact X.baloadBytes hx (by rw [eT]; exact Ar.1) (State.isArrayOf_alike hZ.alike Ar.2.1) Ar.2.2 hin (H.at hin hv) (g := mkF m pc Ls (.int j :: .ref a :: st)) rfl rfl (hb hby hd) _ kk) r
theorem r_baloadZ (C : Ctx l R Z own nm code maxL ret fl n0 kz K) {a : Addr} {k : ClassId} {z j : Int32} {vs : List Value} {dv v : Value} (hd : decode code pc = .ok (.baload, 1)) (hp : pc + 1 = pc') (A : Arv Z h a k .boolean z vs dv) (hj : Inb j z) (hv : vs.getD j.toNatClampNeg dv = v) (r : Run l R n0 Q K h cells slots pc' Ls (v :: st)) : Run l R n0 Q K h cells slots pc Ls (.int j :: .ref a :: st) :=
  Run.pure C (Or.inr trivial) (fun p e s m args below meth c hx hby hown hZ T locs X eT target kk => by
    subst hp
    obtain ⟨cl, Ar, q1, S, N, H, G⟩ := A
    have hin := inb_of S hj
    exact X.baloadBooleans hx (by rw [eT]; exact Ar.1) (State.isArrayOf_alike hZ.alike Ar.2.1) Ar.2.2 hin (H.at hin hv) (g := mkF m pc Ls (.int j :: .ref a :: st)) rfl rfl (hb hby hd) _ kk) r
theorem r_aaload (C : Ctx l R Z own nm code maxL ret fl n0 kz K) {a : Addr} {k : ClassId} {ty : FieldType} {z j : Int32} {vs : List Value} {dv v : Value} (hd : decode code pc = .ok (.aaload, 1)) (hp : pc + 1 = pc') (A : Arv Z h a k ty z vs dv) (hty : ty.isReference = true) (hj : Inb j z) (hv : vs.getD j.toNatClampNeg dv = v) (r : Run l R n0 Q K h cells slots pc' Ls (v :: st)) : Run l R n0 Q K h cells slots pc Ls (.int j :: .ref a :: st) :=
  Run.pure C (Or.inr trivial) (fun p e s m args below meth c hx hby hown hZ T locs X eT target kk => by
    subst hp
    obtain ⟨cl, Ar, q1, S, N, H, G⟩ := A
    have hin := inb_of S hj
    exact X.aaload hx (by rw [eT]; exact Ar.1) (State.isArrayOf_alike hZ.alike Ar.2.1) hty Ar.2.2 hin (H.at hin hv) (g := mkF m pc Ls (.int j :: .ref a :: st)) rfl rfl (hb hby hd) _ kk) r
theorem Run.move {cells' slots' : Nat} (C : Ctx l R Z own nm code maxL ret fl n0 kz K)
    (k : ∀ (p : Program) (e : Env) (s : State) (m : MethodId) (args : Array Value) (below : List Frame) (meth : Method) (c : Code), p.tables.exec = Jvm.exec → c.code = code → c.maxLocals = maxL → meth.name = nm → s.vm.findClass own = some m.cls → Z.Warmed39 s.vm → ∀ (T : State) (locs : List Loc), Stand p l e R s m args below meth c T locs cells slots → T.heap = h →
      ∃ (T' : State) (h' : Heap), Stand p l e R s m args below meth c T' locs cells' slots' ∧ T'.heap = h' ∧ Run l R n0 Q K h' cells' slots' pc' Ls' rest ∧ ∀ target, Steps p.tables e below (T'.setTop (mkF m pc' Ls' rest)) target → Steps p.tables e below (T.setTop (mkF m pc Ls st)) target) :
    Run l R n0 Q K h cells slots pc Ls st := by
  obtain ⟨Pl, En, p, e, s, m, args, below, meth, c⟩ := K
  intro T locs X eT N
  obtain ⟨hx, hZ, hown, hby, hml, -, hnm, -⟩ := C
  obtain ⟨T', h', X', eT', r, kk⟩ := k p e s m args below meth c hx hby hml hnm hown hZ T locs X eT
  obtain ⟨s2, o, k1, k2⟩ := r T' locs X' eT' N
  exact ⟨s2, o, kk _ k1, k2⟩
theorem Run.write (C : Ctx l R Z own nm code maxL ret true n0 kz K) {a : Addr} {sl : Nat} (ge : n0 ≤ a)
    (k : ∀ (p : Program) (e : Env) (s : State) (m : MethodId) (args : Array Value) (below : List Frame) (meth : Method) (c : Code), p.tables.exec = Jvm.exec → c.code = code → c.maxLocals = maxL → meth.name = nm → s.vm.findClass own = some m.cls → Z.Warmed39 s.vm → ∀ (T : State) (locs : List Loc), Stand p l e R s m args below meth c T locs cells slots → T.heap = h →
      ∃ (T' : State) (h' : Heap), Stand p l e R s m args below meth c T' (locs ++ [⟨a, sl⟩]) cells slots ∧ T'.heap = h' ∧ Run l R n0 Q K h' cells slots pc' Ls' rest ∧ ∀ target, Steps p.tables e below (T'.setTop (mkF m pc' Ls' rest)) target → Steps p.tables e below (T.setTop (mkF m pc Ls st)) target) :
    Run l R n0 Q K h cells slots pc Ls st := by
  obtain ⟨Pl, En, p, e, s, m, args, below, meth, c⟩ := K
  intro T locs X eT N
  obtain ⟨hx, hZ, hown, hby, hml, -, hnm, -, hcl, -⟩ := C
  obtain ⟨T', h', X', eT', r, kk⟩ := k p e s m args below meth c hx hby hml hnm hown hZ T locs X eT
  obtain ⟨s2, o, k1, k2⟩ := r T' _ X' eT' (hcl rfl _ _ N (fun y hy => by cases List.mem_singleton.mp hy; exact ge))
  exact ⟨s2, o, kk _ k1, k2⟩
theorem r_getF (C : Ctx l R Z own nm code maxL ret fl n0 kz K) {idx : Nat} {R0 O n d : String} {a : Addr} {v : Value} (hd : decode code pc = .ok (.getfield idx, 3)) (hp : pc + 3 = pc') (w : (Jvm.Cond.fieldLink own idx R0 n d).before a0 Z = true) (via : Via Z R0 O n d) (F : Fld Z h a O n d v) (r : Run l R n0 Q K h cells slots pc' Ls (v :: st)) : Run l R n0 Q K h cells slots pc Ls (.ref a :: st) := by
  subst hp
  exact Run.move (cells' := cells) (slots' := slots) (pc' := pc + 3) (Ls' := Ls) (rest := v :: st) C (fun p e s m args below meth c hx hby hml hnm hown hZ T locs X eT => by
    obtain ⟨T', X', e', s'⟩ := getF X hx hZ hown (host := "") (Or.inl w) via eT F (g := mkF m pc Ls (.ref a :: st)) rfl rfl (hb hby hd)
    exact ⟨T', h, X', e', r, s'⟩)
theorem r_getFN (C : Ctx l R Z own nm code maxL ret fl n0 kz K) {idx : Nat} {R0 O n d host : String} {a : Addr} {v : Value} (hd : decode code pc = .ok (.getfield idx, 3)) (hp : pc + 3 = pc') (w : (Jvm.Cond.fieldLinkNest own idx R0 n d host).before a0 Z = true) (via : Via Z R0 O n d) (F : Fld Z h a O n d v) (r : Run l R n0 Q K h cells slots pc' Ls (v :: st)) : Run l R n0 Q K h cells slots pc Ls (.ref a :: st) := by
  subst hp
  exact Run.move (cells' := cells) (slots' := slots) (pc' := pc + 3) (Ls' := Ls) (rest := v :: st) C (fun p e s m args below meth c hx hby hml hnm hown hZ T locs X eT => by
    obtain ⟨T', X', e', s'⟩ := getF X hx hZ hown (Or.inr w) via eT F (g := mkF m pc Ls (.ref a :: st)) rfl rfl (hb hby hd)
    exact ⟨T', h, X', e', r, s'⟩)
theorem r_getS (C : Ctx l R Z own nm code maxL ret fl n0 kz K) {idx : Nat} {R0 O n d : String} {v : Value} (hd : decode code pc = .ok (.getstatic idx, 3)) (hp : pc + 3 = pc') (w : (Jvm.Cond.fieldLink own idx R0 n d).before a0 Z = true) (via : Via Z R0 O n d) (F : Sta Z h O n d v) (r : Run l R n0 Q K h cells slots pc' Ls (v :: st)) : Run l R n0 Q K h cells slots pc Ls st := by
  subst hp
  exact Run.move (cells' := cells) (slots' := slots) (pc' := pc + 3) (Ls' := Ls) (rest := v :: st) C (fun p e s m args below meth c hx hby hml hnm hown hZ T locs X eT => by
    obtain ⟨T', X', e', s'⟩ := getS2 X hx hZ hown (host := "") (Or.inl w) via eT F (g := mkF m pc Ls st) rfl (hb hby hd)
    exact ⟨T', h, X', e', r, s'⟩)
theorem r_putF (C : Ctx l R Z own nm code maxL ret true n0 kz K) {idx kk : Nat} {R0 O n d Cn : String} {a : Addr} {v old : Value} {ty : FieldType} (hd : decode code pc = .ok (.putfield idx, 3)) (hp : pc + 3 = pc') (w : (Jvm.Cond.fieldLink own idx R0 n d).before a0 Z = true) (via : Via Z R0 O n d) (F : Fld Z h a O n d old) (E : Exa Z h a Cn)
    (L : (Jvm.Cond.lays Cn O n d).before a0 Z = true ∨ ((Jvm.Cond.laysFinal Cn O n d).before a0 Z = true ∧ own = O ∧ nm = "<init>")) (wi : (Jvm.Cond.instantiable Cn kk).before a0 Z = true) (hty : parseFieldDescriptor d = some ty) (hn : narrow ty v = v) (hf : fits ty v = true) (ge : n0 ≤ a)
    (r : ∀ h', Wr h h' a (Jvm.RoadKit.slotOf Z O n d) v → Run l R n0 Q K h' cells slots pc' Ls st) : Run l R n0 Q K h cells slots pc Ls (v :: .ref a :: st) := by
  subst hp
  exact Run.write (pc' := pc + 3) (Ls' := Ls) (rest := st) C ge (fun p e s m args below meth c hx hby hml hnm hown hZ T locs X eT => by
    obtain ⟨T', h', X', e', W, s'⟩ := putF X hx hZ hown (host := "") (Or.inl w) via eT F E (L.imp id fun q => ⟨q.1, q.2.1, by rw [hnm]; exact q.2.2⟩) wi hty hn hf (g := mkF m pc Ls (v :: .ref a :: st)) rfl rfl (hb hby hd)
    exact ⟨T', h', X', e', r h' W, s'⟩)
theorem r_putFN (C : Ctx l R Z own nm code maxL ret true n0 kz K) {idx kk : Nat} {R0 O n d Cn : String} {a : Addr} {v v' old : Value} {ty : FieldType} (hd : decode code pc = .ok (.putfield idx, 3)) (hp : pc + 3 = pc') (w : (Jvm.Cond.fieldLink own idx R0 n d).before a0 Z = true) (via : Via Z R0 O n d) (F : Fld Z h a O n d old) (E : Exa Z h a Cn)
    (L : (Jvm.Cond.lays Cn O n d).before a0 Z = true ∨ ((Jvm.Cond.laysFinal Cn O n d).before a0 Z = true ∧ own = O ∧ nm = "<init>")) (wi : (Jvm.Cond.instantiable Cn kk).before a0 Z = true) (hty : parseFieldDescriptor d = some ty) (hn : narrow ty v = v') (hf : fits ty v' = true) (ge : n0 ≤ a)
    (r : ∀ h', Wr h h' a (Jvm.RoadKit.slotOf Z O n d) v' → Run l R n0 Q K h' cells slots pc' Ls st) : Run l R n0 Q K h cells slots pc Ls (v :: .ref a :: st) := by
  subst hp
  exact Run.write (pc' := pc + 3) (Ls' := Ls) (rest := st) C ge (fun p e s m args below meth c hx hby hml hnm hown hZ T locs X eT => by
    obtain ⟨T', h', X', e', W, s'⟩ := putFN X hx hZ hown w via eT F E (L.imp id fun q => ⟨q.1, q.2.1, by rw [hnm]; exact q.2.2⟩) wi hty hn hf (g := mkF m pc Ls (v :: .ref a :: st)) rfl rfl (hb hby hd)
    exact ⟨T', h', X', e', r h' W, s'⟩)
theorem r_new (C : Ctx l R Z own nm code maxL ret fl n0 kz K) {idx n : Nat} {Cn : String} (hd : decode code pc = .ok (.new idx, 3)) (hp : pc + 3 = pc') (w : (Jvm.Cond.classLink own idx Cn).before a0 Z = true) (wi : (Jvm.Cond.instantiable Cn n).before a0 Z = true) (wz : (Jvm.Cond.initialized Cn).before a0 Z = true) (hc : cells + 1 ≤ R.cells) (hl : slots + n ≤ R.slots)
    (r : ∀ h' a, a = h.size → Ext h h' → Exa Z h' a Cn → (∀ {O nm d : String} {ty : FieldType}, Laid Z a0 Cn O nm d → parseFieldDescriptor d = some ty → Fld Z h' a O nm d (defaultValue ty)) → Run l R n0 Q K h' (cells + 1) (slots + n) pc' Ls (.ref a :: st)) : Run l R n0 Q K h cells slots pc Ls st := by
  subst hp
  exact Run.move (cells' := cells + 1) (slots' := slots + n) (pc' := pc + 3) (Ls' := Ls) (rest := .ref h.size :: st) C (fun p e s m args below meth c hx hby hml hnm hown hZ T locs X eT => by
    obtain ⟨T', h', X', e', E, A, D, -, s'⟩ := newO X hx hZ hown w wi wz eT (g := mkF m pc Ls st) rfl (hb hby hd) hc hl
    exact ⟨T', h', X', e', r h' _ rfl E A D, s'⟩)
theorem r_newarray (C : Ctx l R Z own nm code maxL ret fl n0 kz K) {aty : ArrayType} {ty : FieldType} {n : Int32} {cap : Nat} (hd : decode code pc = .ok (.newarray aty, 2)) (hp : pc + 2 = pc') (hty : newarray.typeOf aty = ty) (w : (Jvm.Cond.arrayClass ty).before a0 Z = true) (hn : ¬ n < 0) (hcap : n.toNatClampNeg ≤ cap) (hb' : cap * 8 ≤ 536870912) (hc : cells + 1 ≤ R.cells) (hl : slots + cap ≤ R.slots)
    (r : ∀ h' a k, a = h.size → Ext h h' → Arv Z h' a k ty n [] (defaultValue ty) → Run l R n0 Q K h' (cells + 1) (slots + cap) pc' Ls (.ref a :: st)) : Run l R n0 Q K h cells slots pc Ls (.int n :: st) := by
  subst hp hty
  exact Run.move (cells' := cells + 1) (slots' := slots + cap) (pc' := pc + 2) (Ls' := Ls) (rest := .ref h.size :: st) C (fun p e s m args below meth c hx hby hml hnm hown hZ T locs X eT => by
    obtain ⟨T', h', k, X', e', E, A, s'⟩ := newP X hx hZ w eT (g := mkF m pc Ls (.int n :: st)) rfl (hb hby hd) rfl hn (cap := cap) hcap hb' hc hl
    exact ⟨T', h', X', e', r h' _ k rfl E (Arv.new A hn), s'⟩)
theorem r_anewarray (C : Ctx l R Z own nm code maxL ret fl n0 kz K) {idx : Nat} {Cn : String} {n : Int32} {cap : Nat} (hd : decode code pc = .ok (.anewarray idx, 3)) (hp : pc + 3 = pc') (w : (Jvm.Cond.classLink own idx Cn).before a0 Z = true) (w2 : (Jvm.Cond.arrayOver (.object Cn)).before a0 Z = true) (hn : ¬ n < 0) (hcap : n.toNatClampNeg ≤ cap) (hb' : cap * 8 ≤ 536870912) (hc : cells + 1 ≤ R.cells) (hl : slots + cap ≤ R.slots)
    (r : ∀ h' a k, a = h.size → Ext h h' → Arv Z h' a k (.object Cn) n [] .null → Ovr Z k Cn → Run l R n0 Q K h' (cells + 1) (slots + cap) pc' Ls (.ref a :: st)) : Run l R n0 Q K h cells slots pc Ls (.int n :: st) := by
  subst hp
  exact Run.move (cells' := cells + 1) (slots' := slots + cap) (pc' := pc + 3) (Ls' := Ls) (rest := .ref h.size :: st) C (fun p e s m args below meth c hx hby hml hnm hown hZ T locs X eT => by
    obtain ⟨T', h', k, X', e', E, A, O, s'⟩ := newR X hx hZ hown w w2 eT (g := mkF m pc Ls (.int n :: st)) rfl (hb hby hd) rfl hn (cap := cap) hcap hb' hc hl
    exact ⟨T', h', X', e', r h' _ k rfl E (Arv.new A hn) O, s'⟩)
theorem r_checkcast (C : Ctx l R Z own nm code maxL ret fl n0 kz K) {idx : Nat} {Kn : String} {a : Addr} (hd : decode code pc = .ok (.checkcast idx, 3)) (hp : pc + 3 = pc') (w : (Jvm.Cond.classLink own idx Kn).before a0 Z = true) (F : Ins Z h a Kn true) (r : Run l R n0 Q K h cells slots pc' Ls (.ref a :: st)) : Run l R n0 Q K h cells slots pc Ls (.ref a :: st) := by
  subst hp
  exact Run.move (cells' := cells) (slots' := slots) (pc' := pc + 3) (Ls' := Ls) (rest := .ref a :: st) C (fun p e s m args below meth c hx hby hml hnm hown hZ T locs X eT => by
    obtain ⟨T', X', e', s'⟩ := castY X hx hZ hown w eT F (g := mkF m pc Ls (.ref a :: st)) rfl rfl (hb hby hd)
    exact ⟨T', h, X', e', r, s'⟩)
theorem r_checkcastNull (C : Ctx l R Z own nm code maxL ret fl n0 kz K) {idx : Nat} (hd : decode code pc = .ok (.checkcast idx, 3)) (hp : pc + 3 = pc') (r : Run l R n0 Q K h cells slots pc' Ls (.null :: st)) : Run l R n0 Q K h cells slots pc Ls (.null :: st) :=
  Run.pure C (Or.inr trivial) (fun p e s m args below meth c hx hby hown hZ T locs X eT target kk => by
    subst hp
    exact X.checkcastNull hx (g := mkF m pc Ls (.null :: st)) rfl rfl (hb hby hd) _ kk) r
theorem r_instanceof (C : Ctx l R Z own nm code maxL ret fl n0 kz K) {idx : Nat} {Kn : String} {a : Addr} (hd : decode code pc = .ok (.instanceof idx, 3)) (hp : pc + 3 = pc') (w : (Jvm.Cond.classLink own idx Kn).before a0 Z = true) (F : Ins Z h a Kn true) (r : Run l R n0 Q K h cells slots pc' Ls (.int 1 :: st)) : Run l R n0 Q K h cells slots pc Ls (.ref a :: st) := by
  subst hp
  exact Run.move (cells' := cells) (slots' := slots) (pc' := pc + 3) (Ls' := Ls) (rest := .int 1 :: st) C (fun p e s m args below meth c hx hby hml hnm hown hZ T locs X eT => by
    obtain ⟨T', X', e', s'⟩ := instY X hx hZ hown w eT F (g := mkF m pc Ls (.ref a :: st)) rfl rfl (hb hby hd)
    exact ⟨T', h, X', e', r, s'⟩)
theorem r_iastore (C : Ctx l R Z own nm code maxL ret true n0 kz K) {a : Addr} {k : ClassId} {z j : Int32} {x : Int32} {vs : List Value} {dv : Value} (hd : decode code pc = .ok (.iastore, 1)) (hp : pc + 1 = pc') (A : Arv Z h a k .int z vs dv) (hj : Inb j z) (hi : j.toNatClampNeg < vs.length) (ge : n0 ≤ a)
    (r : ∀ h', Wr h h' a j.toNatClampNeg (.int x) → Arv Z h' a k .int z (vs.set j.toNatClampNeg (.int x)) dv → Run l R n0 Q K h' cells slots pc' Ls st) : Run l R n0 Q K h cells slots pc Ls (.int x :: .int j :: .ref a :: st) := by
  subst hp
  exact Run.write (pc' := pc + 1) (Ls' := Ls) (rest := st) C ge (fun p e s m args below meth c hx hby hml hnm hown hZ T locs X eT => by
    obtain ⟨cl, Ar, q1, S, N1, H, G⟩ := A
    obtain ⟨T', h', X', e', W, s'⟩ := stI X hx hZ eT Ar (j := j) (x := x) (inb_of S hj) (g := mkF m pc Ls (.int x :: .int j :: .ref a :: st)) rfl rfl (hb hby hd)
    exact ⟨T', h', X', e', r h' W (Arv.set Ar q1 S N1 H G rfl W _ rfl hi), s'⟩)
theorem r_lastore (C : Ctx l R Z own nm code maxL ret true n0 kz K) {a : Addr} {k : ClassId} {z j : Int32} {x : Int64} {vs : List Value} {dv : Value} (hd : decode code pc = .ok (.lastore, 1)) (hp : pc + 1 = pc') (A : Arv Z h a k .long z vs dv) (hj : Inb j z) (hi : j.toNatClampNeg < vs.length) (ge : n0 ≤ a)
    (r : ∀ h', Wr h h' a j.toNatClampNeg (.long x) → Arv Z h' a k .long z (vs.set j.toNatClampNeg (.long x)) dv → Run l R n0 Q K h' cells slots pc' Ls st) : Run l R n0 Q K h cells slots pc Ls (.long x :: .int j :: .ref a :: st) := by
  subst hp
  exact Run.write (pc' := pc + 1) (Ls' := Ls) (rest := st) C ge (fun p e s m args below meth c hx hby hml hnm hown hZ T locs X eT => by
    obtain ⟨cl, Ar, q1, S, N1, H, G⟩ := A
    obtain ⟨T', h', X', e', W, s'⟩ := stJ X hx hZ eT Ar (j := j) (x := x) (inb_of S hj) (g := mkF m pc Ls (.long x :: .int j :: .ref a :: st)) rfl rfl (hb hby hd)
    exact ⟨T', h', X', e', r h' W (Arv.set Ar q1 S N1 H G rfl W _ rfl hi), s'⟩)
theorem r_castore (C : Ctx l R Z own nm code maxL ret true n0 kz K) {a : Addr} {k : ClassId} {z j x : Int32} {vs : List Value} {dv : Value} (hd : decode code pc = .ok (.castore, 1)) (hp : pc + 1 = pc') (A : Arv Z h a k .char z vs dv) (hj : Inb j z) (hi : j.toNatClampNeg < vs.length) (hf : fits .char (.int (nar .char x)) = true) (ge : n0 ≤ a)
    (r : ∀ h', Wr h h' a j.toNatClampNeg (.int (nar .char x)) → Arv Z h' a k .char z (vs.set j.toNatClampNeg (.int (nar .char x))) dv → Run l R n0 Q K h' cells slots pc' Ls st) : Run l R n0 Q K h cells slots pc Ls (.int x :: .int j :: .ref a :: st) := by
  subst hp
  exact Run.write (pc' := pc + 1) (Ls' := Ls) (rest := st) C ge (fun p e s m args below meth c hx hby hml hnm hown hZ T locs X eT => by
    obtain ⟨cl, Ar, q1, S, N1, H, G⟩ := A
    obtain ⟨T', h', X', e', W, s'⟩ := stC X hx hZ eT Ar (j := j) (x := x) (inb_of S hj) (g := mkF m pc Ls (.int x :: .int j :: .ref a :: st)) rfl rfl (hb hby hd)
    exact ⟨T', h', X', e', r h' W (Arv.set Ar q1 S N1 H G hf W _ rfl hi), s'⟩)
theorem r_bastore (C : Ctx l R Z own nm code maxL ret true n0 kz K) {a : Addr} {k : ClassId} {z j x : Int32} {vs : List Value} {dv : Value} (hd : decode code pc = .ok (.bastore, 1)) (hp : pc + 1 = pc') (A : Arv Z h a k .byte z vs dv) (hj : Inb j z) (hi : j.toNatClampNeg < vs.length) (hf : fits .byte (.int (nar .byte x)) = true) (ge : n0 ≤ a)
    (r : ∀ h', Wr h h' a j.toNatClampNeg (.int (nar .byte x)) → Arv Z h' a k .byte z (vs.set j.toNatClampNeg (.int (nar .byte x))) dv → Run l R n0 Q K h' cells slots pc' Ls st) : Run l R n0 Q K h cells slots pc Ls (.int x :: .int j :: .ref a :: st) := by
  subst hp
  exact Run.write (pc' := pc + 1) (Ls' := Ls) (rest := st) C ge (fun p e s m args below meth c hx hby hml hnm hown hZ T locs X eT => by
    obtain ⟨cl, Ar, q1, S, N1, H, G⟩ := A
    obtain ⟨T', h', X', e', W, s'⟩ := stB X hx hZ eT Ar (j := j) (x := x) (inb_of S hj) (g := mkF m pc Ls (.int x :: .int j :: .ref a :: st)) rfl rfl (hb hby hd)
    exact ⟨T', h', X', e', r h' W (Arv.set Ar q1 S N1 H G hf W _ rfl hi), s'⟩)
theorem r_bastoreZ (C : Ctx l R Z own nm code maxL ret true n0 kz K) {a : Addr} {k : ClassId} {z j x : Int32} {vs : List Value} {dv : Value} (hd : decode code pc = .ok (.bastore, 1)) (hp : pc + 1 = pc') (A : Arv Z h a k .boolean z vs dv) (hj : Inb j z) (hi : j.toNatClampNeg < vs.length) (hf : fits .boolean (.int (nar .boolean x)) = true) (ge : n0 ≤ a)
    (r : ∀ h', Wr h h' a j.toNatClampNeg (.int (nar .boolean x)) → Arv Z h' a k .boolean z (vs.set j.toNatClampNeg (.int (nar .boolean x))) dv → Run l R n0 Q K h' cells slots pc' Ls st) : Run l R n0 Q K h cells slots pc Ls (.int x :: .int j :: .ref a :: st) := by
  subst hp
  exact Run.write (pc' := pc + 1) (Ls' := Ls) (rest := st) C ge (fun p e s m args below meth c hx hby hml hnm hown hZ T locs X eT => by
    obtain ⟨cl, Ar, q1, S, N1, H, G⟩ := A
    obtain ⟨T', h', X', e', W, s'⟩ := stZ X hx hZ eT Ar (j := j) (x := x) (inb_of S hj) (g := mkF m pc Ls (.int x :: .int j :: .ref a :: st)) rfl rfl (hb hby hd)
    exact ⟨T', h', X', e', r h' W (Arv.set Ar q1 S N1 H G hf W _ rfl hi), s'⟩)
/-- what may lie in a reference array -/
def Stv (Z : State) (h : Heap) (k : ClassId) (v : Value) : Prop := v = .null ∨ ∃ y C, v = .ref y ∧ Ovr Z k C ∧ Ins Z h y C true
theorem r_aastore (C : Ctx l R Z own nm code maxL ret true n0 kz K) {a : Addr} {k : ClassId} {ty : FieldType} {z j : Int32} {v : Value} {vs : List Value} {dv : Value} (hd : decode code pc = .ok (.aastore, 1)) (hp : pc + 1 = pc') (A : Arv Z h a k ty z vs dv) (hty : ty.isReference = true) (hj : Inb j z) (hi : j.toNatClampNeg < vs.length) (F : Stv Z h k v) (ge : n0 ≤ a)
    (r : ∀ h', Wr h h' a j.toNatClampNeg v → Arv Z h' a k ty z (vs.set j.toNatClampNeg v) dv → Run l R n0 Q K h' cells slots pc' Ls st) : Run l R n0 Q K h cells slots pc Ls (v :: .int j :: .ref a :: st) := by
  subst hp
  exact Run.write (pc' := pc + 1) (Ls' := Ls) (rest := st) C ge (fun p e s m args below meth c hx hby hml hnm hown hZ T locs X eT => by
    obtain ⟨cl, Ar, q1, S, N1, H, G⟩ := A
    have F' : Sto Z h a v := by
      rcases F with rfl | ⟨y, Cn, rfl, O, I⟩
      · exact Or.inl rfl
      · exact Sto.ofV Ar q1 O I
    have hf : fits ty v = true := by
      rcases F with rfl | ⟨y, Cn, rfl, O, I⟩ <;> cases ty <;> first | rfl | (cases hty; done)
    obtain ⟨T', h', X', e', W, s'⟩ := stR X hx hZ eT Ar (j := j) (inb_of S hj) hty F' (g := mkF m pc Ls (v :: .int j :: .ref a :: st)) rfl rfl (hb hby hd)
    exact ⟨T', h', X', e', r h' W (Arv.set Ar q1 S N1 H G hf W _ rfl hi), s'⟩)
theorem r_initO (C : Ctx l R Z own nm code maxL ret fl n0 kz K) {idx W : Nat} {a : Addr} (hd : decode code pc = .ok (.invokespecial idx, 3)) (hp : pc + 3 = pc') (w1 : (Jvm.Cond.methodLink own idx Lib.objectInit).before a0 Z = true) (w2 : (Jvm.Cond.instanceMethod Lib.objectInit).before a0 Z = true) (w3 : (Jvm.Cond.code Lib.objectInit ⟨#[0xb1]⟩ 1 none).before a0 Z = true)
    (hsz : Ls.size = maxL) (hf : 1 ≤ R.frames) (hW : (st.map fun v => v.category).sum ≤ W) (hl : W + 12 ≤ R.locals) (r : Run l R n0 Q K h cells slots pc' Ls st) : Run l R n0 Q K h cells slots pc Ls (.ref a :: st) := by
  subst hp
  exact Run.move (cells' := cells) (slots' := slots) (pc' := pc + 3) (Ls' := Ls) (rest := st) C (fun p e s m args below meth c hx hby hml hnm hown hZ T locs X eT => by
    obtain ⟨T', X', e', s'⟩ := initO X hx hZ hown w1 w2 w3 eT (g := mkF m pc Ls (.ref a :: st)) rfl (by rw [hml]; exact hsz) rfl (hb hby hd) hf (W := W) (by show 2 * 0 + _ ≤ _; omega) hl
    exact ⟨T', h, X', e', r, s'⟩)
theorem Con.back {y : MethodName} {bytes : ByteArray} {mL : Nat} {rt : Option FieldType} {rm : Room} {as : Array Value} {Q' : Option Value → Heap → Prop} {len W : Nat} {p : Program} {e : Env} {below : List Frame} {s : State} {args : Array Value} (M : Con l [] y bytes mL rt rm Z as h n0 Q') (hZ : Z.Warmed39 s.vm) (wc : (Jvm.Cond.code y bytes mL rt).before a0 Z = true) (wz : (Jvm.Cond.initialized y.cls).before a0 Z = true) (hf : rm.frames + 1 ≤ R.frames) (hl : W + (mL + 11) + rm.locals ≤ R.locals) :
    Back l R p e below s args y len W (fun A a => a = as ∧ A.U.heap = h ∧ A.cells + rm.cells ≤ R.cells ∧ A.slots + rm.slots ≤ R.slots) (fun A _ v B => ∃ L, (Q' v B.U.heap ∧ Fr n0 L) ∧ B.locs = A.locs ++ L ∧ B.cells = A.cells + rm.cells ∧ B.slots = A.slots + rm.slots) :=
  backOf (Q := fun v h L => Q' v h ∧ Fr n0 L) M hZ wc wz hf hl
/-- a static method by its contract -/
theorem r_callS (C : Ctx l R Z own nm code maxL ret true n0 kz K) {idx : Nat} {y : MethodName} {bytes : ByteArray} {mL : Nat} {rt : Option FieldType} {rm : Room} {argsL : List Value} {Q' : Option Value → Heap → Prop} {ps : List FieldType} {rr : Option FieldType} {W cells' slots' : Nat} {stk : List Value}
    (M : Con l [] y bytes mL rt rm Z argsL.toArray h n0 Q') (hd : decode code pc = .ok (.invokestatic idx, 3)) (hp : pc + 3 = pc') (w1 : (Jvm.Cond.methodLink own idx y).before a0 Z = true) (w2 : (Jvm.Cond.static y).before a0 Z = true) (w3 : (Jvm.Cond.initialized y.cls).before a0 Z = true) (w4 : (Jvm.Cond.code y bytes mL rt).before a0 Z = true)
    (hy : y.cls ≠ "java/lang/invoke/MethodHandle" ∧ y.cls ≠ "java/lang/invoke/VarHandle") (pd : parseMethodDescriptor y.desc = some ⟨ps, rr⟩) (hlen : argsL.length = ps.length) (hst : stk = argsL.reverse ++ st) (hsz : Ls.size = maxL) (hW : (st.map fun v => v.category).sum ≤ W)
    (hf : rm.frames + 1 ≤ R.frames) (hlo : W + (mL + 11) + rm.locals ≤ R.locals) (hc : cells + rm.cells ≤ R.cells) (hs : slots + rm.slots ≤ R.slots) (ec : cells + rm.cells = cells') (es : slots + rm.slots = slots')
    (r : ∀ v h', Q' v h' → Run l R n0 Q K h' cells' slots' pc' Ls (v.toList ++ st)) : Run l R n0 Q K h cells slots pc Ls stk := by
  obtain ⟨Pl, En, p, e, s, m, args, below, meth, c⟩ := K
  intro T locs X eT N
  obtain ⟨hx, hZ, hown, hby, hml, -, hnm, -, hcl, -⟩ := C
  subst hp hst ec es
  obtain ⟨v, _, ⟨T', L', k', n'⟩, -, X', ⟨Lc, ⟨hQ, N'⟩, l', y', z'⟩, s'⟩ := Jvm.LawKit.callS X hx (y := y) hown (mvT hZ w1) (mvT hZ w2) (mvT hZ w3) (mvT hZ w4) hy (Con.back (W := W) M hZ w4 w3 hf hlo) (g := mkF m pc Ls (argsL.reverse ++ st)) rfl (by rw [hml]; exact hsz) (argsL := argsL) (rest := st) (lenOf pd hlen) rfl (by show 2 * 0 + _ ≤ _; omega) (hb hby hd) (fun _ _ => ⟨rfl, eT, hc, hs⟩)
  dsimp only [Pt.U, Pt.locs, Pt.cells, Pt.slots] at X' l' y' z' s' hQ N'
  subst l' y' z'
  obtain ⟨s2, o, k1, k2⟩ := r v T'.heap hQ T' _ X' rfl (hcl rfl _ _ N N')
  exact ⟨s2, o, s' _ k1, k2⟩
/-- a constructor by its contract -/
theorem r_callI (C : Ctx l R Z own nm code maxL ret true n0 kz K) {idx : Nat} {y : MethodName} {bytes : ByteArray} {mL : Nat} {rm : Room} {a : Addr} {argsL : List Value} {Q' : Option Value → Heap → Prop} {ps : List FieldType} {rr : Option FieldType} {W cells' slots' : Nat} {stk : List Value}
    (M : Con l [] y bytes mL none rm Z (.ref a :: argsL).toArray h n0 Q') (hd : decode code pc = .ok (.invokespecial idx, 3)) (hp : pc + 3 = pc') (w1 : (Jvm.Cond.methodLink own idx y).before a0 Z = true) (w2 : (Jvm.Cond.instanceMethod y).before a0 Z = true) (w3 : (Jvm.Cond.initialized y.cls).before a0 Z = true) (w4 : (Jvm.Cond.code y bytes mL none).before a0 Z = true)
    (hin : y.name = "<init>") (hy : y.cls ≠ "java/lang/invoke/MethodHandle" ∧ y.cls ≠ "java/lang/invoke/VarHandle") (pd : parseMethodDescriptor y.desc = some ⟨ps, rr⟩) (hlen : argsL.length = ps.length) (hst : stk = argsL.reverse ++ .ref a :: st) (hsz : Ls.size = maxL) (hW : (st.map fun v => v.category).sum ≤ W)
    (hf : rm.frames + 1 ≤ R.frames) (hlo : W + (mL + 11) + rm.locals ≤ R.locals) (hc : cells + rm.cells ≤ R.cells) (hs : slots + rm.slots ≤ R.slots) (ec : cells + rm.cells = cells') (es : slots + rm.slots = slots')
    (r : ∀ v h', Q' v h' → Run l R n0 Q K h' cells' slots' pc' Ls (v.toList ++ st)) : Run l R n0 Q K h cells slots pc Ls stk := by
  obtain ⟨Pl, En, p, e, s, m, args, below, meth, c⟩ := K
  intro T locs X eT N
  obtain ⟨hx, hZ, hown, hby, hml, -, hnm, -, hcl, -⟩ := C
  subst hp hst ec es
  obtain ⟨v, _, ⟨T', L', k', n'⟩, -, X', ⟨Lc, ⟨hQ, N'⟩, l', y', z'⟩, s'⟩ := X.specialBack hx (y := y) hin hown (mvT hZ w1) (mvT hZ w2) (mvT hZ w4) hy (Con.back (W := W) M hZ w4 w3 hf hlo) (g := mkF m pc Ls (argsL.reverse ++ .ref a :: st)) rfl (by rw [hml]; exact hsz) (Steps.refl _) (a := a) (argsL := argsL) (rest := st) (lenOf pd hlen) rfl (by show 2 * 0 + _ ≤ _; omega) (hb hby hd) (fun _ _ => ⟨rfl, eT, hc, hs⟩)
  dsimp only [Pt.U, Pt.locs, Pt.cells, Pt.slots] at X' l' y' z' s' hQ N'
  subst l' y' z'
  obtain ⟨s2, o, k1, k2⟩ := r v T'.heap hQ T' _ X' rfl (hcl rfl _ _ N N')
  exact ⟨s2, o, s'.trans k1, k2⟩
/-- an instance method by the contract of the body that the receiver's class selects -/
theorem r_callV (C : Ctx l R Z own nm code maxL ret true n0 kz K) {idx : Nat} {y z : MethodName} {Cn : String} {bytes : ByteArray} {mL : Nat} {rt : Option FieldType} {rm : Room} {a : Addr} {argsL : List Value} {Q' : Option Value → Heap → Prop} {ps : List FieldType} {rr : Option FieldType} {W cells' slots' : Nat} {stk : List Value}
    (M : Con l [] z bytes mL rt rm Z (.ref a :: argsL).toArray h n0 Q') (E : Exa Z h a Cn) (hd : decode code pc = .ok (.invokevirtual idx, 3)) (hp : pc + 3 = pc') (w1 : (Jvm.Cond.methodLink own idx y).before a0 Z = true) (wd : (Jvm.Cond.declares y).before a0 Z = true) (nf : ∀ (s : State) (args : Array Value), Z.Warmed39 s.vm → NotFace s y) (ws : (Jvm.Cond.selects Cn y z).before a0 Z = true) (w2 : (Jvm.Cond.instanceMethod z).before a0 Z = true) (w3 : (Jvm.Cond.initialized z.cls).before a0 Z = true) (w4 : (Jvm.Cond.code z bytes mL rt).before a0 Z = true)
    (hy : y.cls ≠ "java/lang/invoke/MethodHandle" ∧ y.cls ≠ "java/lang/invoke/VarHandle") (pd : parseMethodDescriptor y.desc = some ⟨ps, rr⟩) (hlen : argsL.length = ps.length) (hst : stk = argsL.reverse ++ .ref a :: st) (hsz : Ls.size = maxL) (hW : (st.map fun v => v.category).sum ≤ W)
    (hf : rm.frames + 1 ≤ R.frames) (hlo : W + (mL + 11) + rm.locals ≤ R.locals) (hc : cells + rm.cells ≤ R.cells) (hs : slots + rm.slots ≤ R.slots) (ec : cells + rm.cells = cells') (es : slots + rm.slots = slots')
    (r : ∀ v h', Q' v h' → Run l R n0 Q K h' cells' slots' pc' Ls (v.toList ++ st)) : Run l R n0 Q K h cells slots pc Ls stk := by
  obtain ⟨Pl, En, p, e, s, m, args, below, meth, c⟩ := K
  intro T locs X eT N
  obtain ⟨hx, hZ, hown, hby, hml, -, hnm, -, hcl, -⟩ := C
  subst hp hst ec es
  obtain ⟨cq, kq, qa, qb, qc⟩ := isOf hZ eT E
  obtain ⟨v, _, ⟨T', L', k', n'⟩, -, X', ⟨Lc, ⟨hQ, N'⟩, l', y', z'⟩, s'⟩ := X.virtualBack hx (y := y) (z := z) hown (mvT hZ w1) (mvT hZ wd) (nf s args hZ) (mvT hZ ws) (mvT hZ w2) hy (Con.back (W := W) M hZ w4 w3 hf hlo) qa qc (g := mkF m pc Ls (argsL.reverse ++ .ref a :: st)) rfl (by rw [hml]; exact hsz) (Steps.refl _) (argsL := argsL) (rest := st) (lenOf pd hlen) rfl (by show 2 * 0 + _ ≤ _; omega) (hb hby hd) (fun _ _ => ⟨rfl, eT, hc, hs⟩)
  dsimp only [Pt.U, Pt.locs, Pt.cells, Pt.slots] at X' l' y' z' s' hQ N'
  subst l' y' z'
  obtain ⟨s2, o, k1, k2⟩ := r v T'.heap hQ T' _ X' rfl (hcl rfl _ _ N N')
  exact ⟨s2, o, s'.trans k1, k2⟩
theorem nfSel {y z : MethodName} {Cn : String} (w : (Jvm.Cond.selects Cn y y).before a0 Z = true) : ∀ (s : State) (args : Array Value), Z.Warmed39 s.vm → NotFace s y := fun s args hZ => notFace_of_selects (args := args) (mvT hZ w)
/-- a private instance method by its contract (invokevirtual) -/
theorem r_callP (C : Ctx l R Z own nm code maxL ret true n0 kz K) {idx : Nat} {y : MethodName} {bytes : ByteArray} {mL : Nat} {rt : Option FieldType} {rm : Room} {a : Addr} {Cn : String} {argsL : List Value} {Q' : Option Value → Heap → Prop} {ps : List FieldType} {rr : Option FieldType} {W cells' slots' : Nat} {stk : List Value}
    (M : Con l [] y bytes mL rt rm Z (.ref a :: argsL).toArray h n0 Q') (E : Exa Z h a Cn) (hd : decode code pc = .ok (.invokevirtual idx, 3)) (hp : pc + 3 = pc') (w1 : (Jvm.Cond.methodLink own idx y).before a0 Z = true) (w2 : (Jvm.Cond.instanceMethod y).before a0 Z = true) {kk : Nat} (wi : (Jvm.Cond.instantiable y.cls kk).before a0 Z = true) (wp : (Jvm.Cond.privateMethod y).before a0 Z = true) (w3 : (Jvm.Cond.initialized y.cls).before a0 Z = true) (w4 : (Jvm.Cond.code y bytes mL rt).before a0 Z = true)
    (hy : y.cls ≠ "java/lang/invoke/MethodHandle" ∧ y.cls ≠ "java/lang/invoke/VarHandle") (pd : parseMethodDescriptor y.desc = some ⟨ps, rr⟩) (hlen : argsL.length = ps.length) (hst : stk = argsL.reverse ++ .ref a :: st) (hsz : Ls.size = maxL) (hW : (st.map fun v => v.category).sum ≤ W)
    (hf : rm.frames + 1 ≤ R.frames) (hlo : W + (mL + 11) + rm.locals ≤ R.locals) (hc : cells + rm.cells ≤ R.cells) (hs : slots + rm.slots ≤ R.slots) (ec : cells + rm.cells = cells') (es : slots + rm.slots = slots')
    (r : ∀ v h', Q' v h' → Run l R n0 Q K h' cells' slots' pc' Ls (v.toList ++ st)) : Run l R n0 Q K h cells slots pc Ls stk := by
  obtain ⟨Pl, En, p, e, s, m, args, below, meth, c⟩ := K
  intro T locs X eT N
  obtain ⟨hx, hZ, hown, hby, hml, -, hnm, -, hcl, -⟩ := C
  subst hp hst ec es
  obtain ⟨cq, q1, q2⟩ := E.cell
  have hpr : s.PrivateAt y := Cond.privateMethod_at (mvP hZ wp (args := #[]))
  have hw2 : (Jvm.Cond.instanceMethod y).before args s = true := mvT hZ w2
  obtain ⟨c2, k2, hc2, hk2, -, hni, -, -⟩ := Cond.instantiable_spec (mvT (args := args) hZ wi)
  have hsel := Stand.selects_self_of_private hc2 hk2 (Bool.or_eq_false_iff.mp hni).1 hpr hw2 hy
  obtain ⟨v, _, ⟨T', L', k', n'⟩, -, X', ⟨Lc, ⟨hQ, N'⟩, l', y', z'⟩, s'⟩ := X.privateBack hx (y := y) hown (mvT hZ w1) hw2 hsel hpr (mvT hZ w4) hy (Con.back (W := W) M hZ w4 w3 hf hlo) (g := mkF m pc Ls (argsL.reverse ++ .ref a :: st)) rfl (by rw [hml]; exact hsz) (Steps.refl _) (a := a) (by rw [eT]; exact q1) q2 (argsL := argsL) (rest := st) (lenOf pd hlen) rfl (by show 2 * 0 + _ ≤ _; omega) (hb hby hd) (fun _ _ => ⟨rfl, eT, hc, hs⟩)
  dsimp only [Pt.U, Pt.locs, Pt.cells, Pt.slots] at X' l' y' z' s' hQ N'
  subst l' y' z'
  obtain ⟨s2, o, k1, k2⟩ := r v T'.heap hQ T' _ X' rfl (hcl rfl _ _ N N')
  exact ⟨s2, o, s'.trans k1, k2⟩
/-- through an interface -/
theorem r_callF (C : Ctx l R Z own nm code maxL ret true n0 kz K) {idx count : Nat} {y z : MethodName} {Cn : String} {bytes : ByteArray} {mL : Nat} {rt : Option FieldType} {rm : Room} {a : Addr} {argsL : List Value} {Q' : Option Value → Heap → Prop} {ps : List FieldType} {rr : Option FieldType} {W cells' slots' : Nat} {stk : List Value}
    (M : Con l [] z bytes mL rt rm Z (.ref a :: argsL).toArray h n0 Q') (E : Exa Z h a Cn) (hd : decode code pc = .ok (.invokeinterface idx count, 5)) (hp : pc + 5 = pc') (w1 : (Jvm.Cond.methodLink own idx y).before a0 Z = true) (wd : (Jvm.Cond.declares y).before a0 Z = true) (wf : (Jvm.Cond.interfaceMethod y.cls y.cls y.name y.desc).before a0 Z = true) (ws : (Jvm.Cond.selects Cn y z).before a0 Z = true) (w2 : (Jvm.Cond.instanceMethod z).before a0 Z = true) (wp : (Jvm.Cond.publicMethod z).before a0 Z = true) (wu : (Jvm.Cond.unhidden Cn y.name y.desc).before a0 Z = true) (wc : (Jvm.Cond.castable Cn y.cls).before a0 Z = true) (w3 : (Jvm.Cond.initialized z.cls).before a0 Z = true) (w4 : (Jvm.Cond.code z bytes mL rt).before a0 Z = true)
    (hfa : ((Jvm.Cond.interfaceMethod y.cls y.cls y.name y.desc).onTables && (Jvm.Cond.interfaceMethod y.cls y.cls y.name y.desc).keepsFace) = true) (hy : y.cls ≠ "java/lang/invoke/MethodHandle" ∧ y.cls ≠ "java/lang/invoke/VarHandle") (pd : parseMethodDescriptor y.desc = some ⟨ps, rr⟩) (hlen : argsL.length = ps.length) (hst : stk = argsL.reverse ++ .ref a :: st) (hsz : Ls.size = maxL) (hW : (st.map fun v => v.category).sum ≤ W)
    (hf : rm.frames + 1 ≤ R.frames) (hlo : W + (mL + 11) + rm.locals ≤ R.locals) (hc : cells + rm.cells ≤ R.cells) (hs : slots + rm.slots ≤ R.slots) (ec : cells + rm.cells = cells') (es : slots + rm.slots = slots')
    (r : ∀ v h', Q' v h' → Run l R n0 Q K h' cells' slots' pc' Ls (v.toList ++ st)) : Run l R n0 Q K h cells slots pc Ls stk := by
  obtain ⟨Pl, En, p, e, s, m, args, below, meth, c⟩ := K
  intro T locs X eT N
  obtain ⟨hx, hZ, hown, hby, hml, -, hnm, -, hcl, -⟩ := C
  subst hp hst ec es
  obtain ⟨cq, kq, qa, qb, qc⟩ := isOf hZ eT E
  obtain ⟨v, _, ⟨T', L', k', n'⟩, -, X', ⟨Lc, ⟨hQ, N'⟩, l', y', z'⟩, s'⟩ := X.interfaceBack hx (xi := y) (y := z) hown (mvT hZ w1) (mvT hZ wd) (mvT hZ wf hfa) (mvT hZ ws) (mvT hZ w2) (mvT hZ wp) (mvT hZ wu) (mvT hZ wc) hy (Con.back (W := W) M hZ w4 w3 hf hlo) qa qb qc (g := mkF m pc Ls (argsL.reverse ++ .ref a :: st)) rfl (by rw [hml]; exact hsz) (Steps.refl _) (argsL := argsL) (rest := st) (lenOf pd hlen) rfl (by show 2 * 0 + _ ≤ _; omega) (hb hby hd) (fun _ _ => ⟨rfl, eT, hc, hs⟩)
  dsimp only [Pt.U, Pt.locs, Pt.cells, Pt.slots] at X' l' y' z' s' hQ N'
  subst l' y' z'
  obtain ⟨s2, o, k1, k2⟩ := r v T'.heap hQ T' _ X' rfl (hcl rfl _ _ N N')
  exact ⟨s2, o, s'.trans k1, k2⟩

/-! numbers -/
def i32 (n : Nat) : Int32 := Int32.ofNat n
theorem i32_toInt {n : Nat} (h : n < 2147483648) : (i32 n).toInt = (n : Int) := Int32.toInt_ofNat_small h
theorem i32_clamp {n : Nat} (h : n < 2147483648) : (i32 n).toNatClampNeg = n := by
  show ((i32 n).toInt).toNat = n
  rw [i32_toInt h]; rfl
theorem i32_nn {n : Nat} (h : n < 2147483648) : ¬ i32 n < 0 := by
  rw [Int32.lt_iff_toInt_lt, i32_toInt h]; show ¬ (n : Int) < 0; omega
theorem i32_lt {a b : Nat} (ha : a < 2147483648) (hb : b < 2147483648) : i32 a < i32 b ↔ a < b := by
  rw [Int32.lt_iff_toInt_lt, i32_toInt ha, i32_toInt hb]; omega
theorem i32_eq {a b : Nat} (ha : a < 2147483648) (hb : b < 2147483648) : i32 a = i32 b ↔ a = b := by
  rw [← Int32.toInt_inj, i32_toInt ha, i32_toInt hb]; omega
theorem i32_add (a b : Nat) : i32 a + i32 b = i32 (a + b) := (Int32.ofNat_add a b).symm
theorem i32_mul (a b : Nat) : i32 a * i32 b = i32 (a * b) := (Int32.ofNat_mul a b).symm
theorem i32_sub {a b : Nat} (h : b ≤ a) : i32 a - i32 b = i32 (a - b) := by
  have e : i32 a = i32 (a - b) + i32 b := by rw [i32_add, Nat.sub_add_cancel h]
  rw [e, Int32.add_sub_cancel]
theorem i32_of {x : Int32} (h : ¬ x < 0) : x = i32 x.toNatClampNeg := (back32 h).1.symm
theorem bm32 {n : Int} (h1 : -2147483648 ≤ n) (h2 : n < 2147483648) : n.bmod (2 ^ 32) = n := Int.bmod_eq_of_le (by omega) (by omega)
theorem i32_div {a b : Nat} (ha : a < 2147483648) (hb : b < 2147483648) : i32 a / i32 b = i32 (a / b) := by
  apply Int32.toInt_inj.mp
  have hq : a / b < 2147483648 := Nat.lt_of_le_of_lt (Nat.div_le_self a b) ha
  rw [Int32.toInt_div, i32_toInt ha, i32_toInt hb, i32_toInt hq, Int.tdiv_eq_ediv_of_nonneg (by omega)]
  have e : (a : Int) / (b : Int) = ((a / b : Nat) : Int) := rfl
  rw [e]; exact bm32 (Int.le_trans (by decide) (Int.natCast_nonneg _)) (Int.ofNat_lt.mpr hq)
theorem i32_rem {a b : Nat} (ha : a < 2147483648) (hb : b < 2147483648) : i32 a % i32 b = i32 (a % b) := by
  apply Int32.toInt_inj.mp
  have hq : a % b < 2147483648 := Nat.lt_of_le_of_lt (Nat.mod_le a b) ha
  rw [Int32.toInt_mod, i32_toInt ha, i32_toInt hb, i32_toInt hq, Int.tmod_eq_emod_of_nonneg (by omega)]
  rfl
theorem i32_ushr1 {a : Nat} (ha : a < 2147483648) : XT.ushr (i32 a) 1 = i32 (a / 2) := by
  have h1 : (i32 a).toUInt32 = UInt32.ofNat a := rfl
  show ((i32 a).toUInt32 >>> ((1 : Int32) &&& 31).toUInt32).toInt32 = _
  rw [h1, show ((1 : Int32) &&& 31).toUInt32 = 1 from rfl]
  apply Int32.toBitVec_inj.mp
  show (UInt32.ofNat a >>> 1).toBitVec = BitVec.ofNat 32 (a / 2)
  apply BitVec.eq_of_toNat_eq
  show (UInt32.ofNat a >>> 1).toNat = (a / 2) % 2 ^ 32
  rw [UInt32.toNat_shiftRight]
  have e2 : (UInt32.ofNat a).toNat = a := by show a % 2 ^ 32 = a; omega
  rw [e2, show (1 : UInt32).toNat % 32 = 1 from rfl, Nat.shiftRight_eq_div_pow]; omega
theorem inb_i {i n : Nat} (h : i < n) (hn : n < 2147483648) : Inb (i32 i) (i32 n) := ⟨i32_nn (Nat.lt_trans h hn), (i32_lt (Nat.lt_trans h hn) hn).mpr h⟩
/-! an array, whole -/
def AV (Z : State) (h : Heap) (a : Addr) (k : ClassId) (ty : FieldType) (vs : List Value) (dv : Value) : Prop := Arv Z h a k ty (i32 vs.length) vs dv ∧ vs.length < 2147483648
theorem AV.lt {a : Addr} {k : ClassId} {ty : FieldType} {vs : List Value} {dv : Value} (F : AV Z h a k ty vs dv) : @LT.lt Nat _ a h.size := F.1.lt
theorem exaLt {a : Addr} {Cn : String} (F : Exa Z h a Cn) : @LT.lt Nat _ a h.size := F.lt
theorem fldLt {a : Addr} {Cn n d : String} {v : Value} (F : Fld Z h a Cn n d v) : @LT.lt Nat _ a h.size := F.lt
theorem AV.ext {a : Addr} {k : ClassId} {ty : FieldType} {vs : List Value} {dv : Value} {h' : Heap} (F : AV Z h a k ty vs dv) (E : Ext h h') : AV Z h' a k ty vs dv := ⟨F.1.ext E, F.2⟩
theorem nn {a b : Nat} (h : @Ne Nat a b) : @Ne Addr a b := h
theorem AV.other {a b : Addr} {k : ClassId} {ty : FieldType} {vs : List Value} {dv v : Value} {sl : Nat} {h' : Heap} (F : AV Z h b k ty vs dv) (W : Wr h h' a sl v) (q : b ≠ a) : AV Z h' b k ty vs dv := ⟨F.1.other W q, F.2⟩
theorem AV.keep {a : Addr} {k : ClassId} {ty : FieldType} {vs : List Value} {dv : Value} {h' : Heap} {ws : List Addr} (F : AV Z h a k ty vs dv) (Kp : Keep h h' ws) (q : a ∉ ws) : AV Z h' a k ty vs dv := ⟨F.1.keep Kp q, F.2⟩
theorem AV.cast {a : Addr} {k : ClassId} {ty : FieldType} {vs vs' : List Value} {dv : Value} (F : AV Z h a k ty vs dv) (e : vs = vs') : AV Z h a k ty vs' dv := e ▸ F
theorem getD_of {vs : List Value} {i : Nat} {v dv : Value} (h : vs[i]? = some v) : vs.getD i dv = v := by simp [List.getD_eq_getElem?_getD, h]
theorem lt_of_get {α : Type} {vs : List α} {i : Nat} {v : α} (h : vs[i]? = some v) : i < vs.length := (List.getElem?_eq_some_iff.mp h).1
theorem r_lengthV (C : Ctx l R Z own nm code maxL ret fl n0 kz K) {a : Addr} {k : ClassId} {ty : FieldType} {vs : List Value} {dv : Value} (hd : decode code pc = .ok (.arraylength, 1)) (hp : pc + 1 = pc') {n : Nat} (A : AV Z h a k ty vs dv) (hn : vs.length = n) (r : Run l R n0 Q K h cells slots pc' Ls (.int (i32 n) :: st)) : Run l R n0 Q K h cells slots pc Ls (.ref a :: st) := by
  subst hn
  exact r_arraylength C hd hp A.1 r
theorem r_aaloadA (C : Ctx l R Z own nm code maxL ret fl n0 kz K) {a : Addr} {cl : Cell} {ty : FieldType} {j : Int32} {v : Value} (hd : decode code pc = .ok (.aaload, 1)) (hp : pc + 1 = pc') (A : Arr Z h a cl ty) (hty : ty.isReference = true) (hin : ¬ (j < 0 ∨ cl.slots.size ≤ j.toNatClampNeg)) (hv : cl.slots[j.toNatClampNeg]? = some v) (r : Run l R n0 Q K h cells slots pc' Ls (v :: st)) : Run l R n0 Q K h cells slots pc Ls (.int j :: .ref a :: st) :=
  Run.pure C (Or.inr trivial) (fun p e s m args below meth c hx hby hown hZ T locs X eT target kk => by
    subst hp
    exact X.aaload hx (by rw [eT]; exact A.1) (State.isArrayOf_alike hZ.alike A.2.1) hty A.2.2 hin hv (g := mkF m pc Ls (.int j :: .ref a :: st)) rfl rfl (hb hby hd) _ kk) r
theorem r_ialoadV (C : Ctx l R Z own nm code maxL ret fl n0 kz K) {a : Addr} {k : ClassId} {j : Int32} {i : Nat} {vs : List Value} {dv v : Value} (hd : decode code pc = .ok (.iaload, 1)) (hp : pc + 1 = pc') (A : AV Z h a k .int vs dv) (hj : j = i32 i) (hv : vs[i]? = some v) (r : Run l R n0 Q K h cells slots pc' Ls (v :: st)) : Run l R n0 Q K h cells slots pc Ls (.int j :: .ref a :: st) := by
  subst hj
  have hi := lt_of_get hv
  exact r_iaload C hd hp A.1 (inb_i hi A.2) (by rw [i32_clamp (Nat.lt_trans hi A.2)]; exact getD_of hv) r
theorem r_laloadV (C : Ctx l R Z own nm code maxL ret fl n0 kz K) {a : Addr} {k : ClassId} {j : Int32} {i : Nat} {vs : List Value} {dv v : Value} (hd : decode code pc = .ok (.laload, 1)) (hp : pc + 1 = pc') (A : AV Z h a k .long vs dv) (hj : j = i32 i) (hv : vs[i]? = some v) (r : Run l R n0 Q K h cells slots pc' Ls (v :: st)) : Run l R n0 Q K h cells slots pc Ls (.int j :: .ref a :: st) := by
  subst hj
  have hi := lt_of_get hv
  exact r_laload C hd hp A.1 (inb_i hi A.2) (by rw [i32_clamp (Nat.lt_trans hi A.2)]; exact getD_of hv) r
theorem r_caloadV (C : Ctx l R Z own nm code maxL ret fl n0 kz K) {a : Addr} {k : ClassId} {j : Int32} {i : Nat} {vs : List Value} {dv v : Value} (hd : decode code pc = .ok (.caload, 1)) (hp : pc + 1 = pc') (A : AV Z h a k .char vs dv) (hj : j = i32 i) (hv : vs[i]? = some v) (r : Run l R n0 Q K h cells slots pc' Ls (v :: st)) : Run l R n0 Q K h cells slots pc Ls (.int j :: .ref a :: st) := by
  subst hj
  have hi := lt_of_get hv
  exact r_caload C hd hp A.1 (inb_i hi A.2) (by rw [i32_clamp (Nat.lt_trans hi A.2)]; exact getD_of hv) r
theorem r_baloadV (C : Ctx l R Z own nm code maxL ret fl n0 kz K) {a : Addr} {k : ClassId} {j : Int32} {i : Nat} {vs : List Value} {dv v : Value} (hd : decode code pc = .ok (.baload, 1)) (hp : pc + 1 = pc') (A : AV Z h a k .byte vs dv) (hj : j = i32 i) (hv : vs[i]? = some v) (r : Run l R n0 Q K h cells slots pc' Ls (v :: st)) : Run l R n0 Q K h cells slots pc Ls (.int j :: .ref a :: st) := by
  subst hj
  have hi := lt_of_get hv
  exact r_baload C hd hp A.1 (inb_i hi A.2) (by rw [i32_clamp (Nat.lt_trans hi A.2)]; exact getD_of hv) r
theorem r_baloadZV (C : Ctx l R Z own nm code maxL ret fl n0 kz K) {a : Addr} {k : ClassId} {j : Int32} {i : Nat} {vs : List Value} {dv v : Value} (hd : decode code pc = .ok (.baload, 1)) (hp : pc + 1 = pc') (A : AV Z h a k .boolean vs dv) (hj : j = i32 i) (hv : vs[i]? = some v) (r : Run l R n0 Q K h cells slots pc' Ls (v :: st)) : Run l R n0 Q K h cells slots pc Ls (.int j :: .ref a :: st) := by
  subst hj
  have hi := lt_of_get hv
  exact r_baloadZ C hd hp A.1 (inb_i hi A.2) (by rw [i32_clamp (Nat.lt_trans hi A.2)]; exact getD_of hv) r
theorem r_aaloadV (C : Ctx l R Z own nm code maxL ret fl n0 kz K) {a : Addr} {k : ClassId} {ty : FieldType} {j : Int32} {i : Nat} {vs : List Value} {dv v : Value} (hd : decode code pc = .ok (.aaload, 1)) (hp : pc + 1 = pc') (A : AV Z h a k ty vs dv) (hty : ty.isReference = true) (hj : j = i32 i) (hv : vs[i]? = some v) (r : Run l R n0 Q K h cells slots pc' Ls (v :: st)) : Run l R n0 Q K h cells slots pc Ls (.int j :: .ref a :: st) := by
  subst hj
  have hi := lt_of_get hv
  exact r_aaload C hd hp A.1 hty (inb_i hi A.2) (by rw [i32_clamp (Nat.lt_trans hi A.2)]; exact getD_of hv) r
theorem r_iastoreV (C : Ctx l R Z own nm code maxL ret true n0 kz K) {a : Addr} {k : ClassId} {j : Int32} {i : Nat} {x : Int32} {vs : List Value} {dv : Value} (hd : decode code pc = .ok (.iastore, 1)) (hp : pc + 1 = pc') (A : AV Z h a k .int vs dv) (hj : j = i32 i) (hi : i < vs.length) (ge : n0 ≤ a) (r : ∀ h', Wr h h' a i (.int x) → AV Z h' a k .int (vs.set i (.int x)) dv → Run l R n0 Q K h' cells slots pc' Ls st) : Run l R n0 Q K h cells slots pc Ls (.int x :: .int j :: .ref a :: st) := by
  subst hj
  have e := i32_clamp (Nat.lt_trans hi A.2)
  refine r_iastore C hd hp A.1 (inb_i hi A.2) (by rw [e]; exact hi) ge fun h' W A' => ?_
  rw [e] at W A'
  exact r h' W ⟨by rw [List.length_set]; exact A', by rw [List.length_set]; exact A.2⟩
theorem r_lastoreV (C : Ctx l R Z own nm code maxL ret true n0 kz K) {a : Addr} {k : ClassId} {j : Int32} {i : Nat} {x : Int64} {vs : List Value} {dv : Value} (hd : decode code pc = .ok (.lastore, 1)) (hp : pc + 1 = pc') (A : AV Z h a k .long vs dv) (hj : j = i32 i) (hi : i < vs.length) (ge : n0 ≤ a) (r : ∀ h', Wr h h' a i (.long x) → AV Z h' a k .long (vs.set i (.long x)) dv → Run l R n0 Q K h' cells slots pc' Ls st) : Run l R n0 Q K h cells slots pc Ls (.long x :: .int j :: .ref a :: st) := by
  subst hj
  have e := i32_clamp (Nat.lt_trans hi A.2)
  refine r_lastore C hd hp A.1 (inb_i hi A.2) (by rw [e]; exact hi) ge fun h' W A' => ?_
  rw [e] at W A'
  exact r h' W ⟨by rw [List.length_set]; exact A', by rw [List.length_set]; exact A.2⟩
theorem r_castoreV (C : Ctx l R Z own nm code maxL ret true n0 kz K) {a : Addr} {k : ClassId} {j x : Int32} {i : Nat} {vs : List Value} {dv : Value} (hd : decode code pc = .ok (.castore, 1)) (hp : pc + 1 = pc') (A : AV Z h a k .char vs dv) (hj : j = i32 i) (hi : i < vs.length) (hf : fits .char (.int (nar .char x)) = true) (ge : n0 ≤ a) (r : ∀ h', Wr h h' a i (.int (nar .char x)) → AV Z h' a k .char (vs.set i (.int (nar .char x))) dv → Run l R n0 Q K h' cells slots pc' Ls st) : Run l R n0 Q K h cells slots pc Ls (.int x :: .int j :: .ref a :: st) := by
  subst hj
  have e := i32_clamp (Nat.lt_trans hi A.2)
  refine r_castore C hd hp A.1 (inb_i hi A.2) (by rw [e]; exact hi) hf ge fun h' W A' => ?_
  rw [e] at W A'
  exact r h' W ⟨by rw [List.length_set]; exact A', by rw [List.length_set]; exact A.2⟩
theorem r_bastoreV (C : Ctx l R Z own nm code maxL ret true n0 kz K) {a : Addr} {k : ClassId} {j x : Int32} {i : Nat} {vs : List Value} {dv : Value} (hd : decode code pc = .ok (.bastore, 1)) (hp : pc + 1 = pc') (A : AV Z h a k .byte vs dv) (hj : j = i32 i) (hi : i < vs.length) (hf : fits .byte (.int (nar .byte x)) = true) (ge : n0 ≤ a) (r : ∀ h', Wr h h' a i (.int (nar .byte x)) → AV Z h' a k .byte (vs.set i (.int (nar .byte x))) dv → Run l R n0 Q K h' cells slots pc' Ls st) : Run l R n0 Q K h cells slots pc Ls (.int x :: .int j :: .ref a :: st) := by
  subst hj
  have e := i32_clamp (Nat.lt_trans hi A.2)
  refine r_bastore C hd hp A.1 (inb_i hi A.2) (by rw [e]; exact hi) hf ge fun h' W A' => ?_
  rw [e] at W A'
  exact r h' W ⟨by rw [List.length_set]; exact A', by rw [List.length_set]; exact A.2⟩
theorem r_bastoreZV (C : Ctx l R Z own nm code maxL ret true n0 kz K) {a : Addr} {k : ClassId} {j x : Int32} {i : Nat} {vs : List Value} {dv : Value} (hd : decode code pc = .ok (.bastore, 1)) (hp : pc + 1 = pc') (A : AV Z h a k .boolean vs dv) (hj : j = i32 i) (hi : i < vs.length) (hf : fits .boolean (.int (nar .boolean x)) = true) (ge : n0 ≤ a) (r : ∀ h', Wr h h' a i (.int (nar .boolean x)) → AV Z h' a k .boolean (vs.set i (.int (nar .boolean x))) dv → Run l R n0 Q K h' cells slots pc' Ls st) : Run l R n0 Q K h cells slots pc Ls (.int x :: .int j :: .ref a :: st) := by
  subst hj
  have e := i32_clamp (Nat.lt_trans hi A.2)
  refine r_bastoreZ C hd hp A.1 (inb_i hi A.2) (by rw [e]; exact hi) hf ge fun h' W A' => ?_
  rw [e] at W A'
  exact r h' W ⟨by rw [List.length_set]; exact A', by rw [List.length_set]; exact A.2⟩
theorem r_aastoreV (C : Ctx l R Z own nm code maxL ret true n0 kz K) {a : Addr} {k : ClassId} {ty : FieldType} {j : Int32} {i : Nat} {v : Value} {vs : List Value} {dv : Value} (hd : decode code pc = .ok (.aastore, 1)) (hp : pc + 1 = pc') (A : AV Z h a k ty vs dv) (hty : ty.isReference = true) (hj : j = i32 i) (hi : i < vs.length) (F : Stv Z h k v) (ge : n0 ≤ a) (r : ∀ h', Wr h h' a i v → AV Z h' a k ty (vs.set i v) dv → Run l R n0 Q K h' cells slots pc' Ls st) : Run l R n0 Q K h cells slots pc Ls (v :: .int j :: .ref a :: st) := by
  subst hj
  have e := i32_clamp (Nat.lt_trans hi A.2)
  refine r_aastore C hd hp A.1 hty (inb_i hi A.2) (by rw [e]; exact hi) F ge fun h' W A' => ?_
  rw [e] at W A'
  exact r h' W ⟨by rw [List.length_set]; exact A', by rw [List.length_set]; exact A.2⟩
theorem av_new {a : Addr} {k : ClassId} {ty : FieldType} {m : Nat} {dv : Value} (hm : m < 2147483648) (A : Arv Z h a k ty (i32 m) [] dv) : AV Z h a k ty (List.replicate m dv) dv := by
  refine ⟨?_, by simpa using hm⟩
  rw [List.length_replicate]
  have := pad_rep [] dv m
  simp only [List.nil_append] at this
  exact A.pad this
theorem r_newarrayV (C : Ctx l R Z own nm code maxL ret fl n0 kz K) {aty : ArrayType} {ty : FieldType} {j : Int32} {m cap : Nat} (hd : decode code pc = .ok (.newarray aty, 2)) (hp : pc + 2 = pc') (hty : newarray.typeOf aty = ty) (w : (Jvm.Cond.arrayClass ty).before a0 Z = true) (hj : j = i32 m) (hcap : m ≤ cap) (hb' : cap * 8 ≤ 536870912) (hc : cells + 1 ≤ R.cells) (hl : slots + cap ≤ R.slots)
    (r : ∀ h' a k, a = h.size → Ext h h' → AV Z h' a k ty (List.replicate m (defaultValue ty)) (defaultValue ty) → Run l R n0 Q K h' (cells + 1) (slots + cap) pc' Ls (.ref a :: st)) : Run l R n0 Q K h cells slots pc Ls (.int j :: st) := by
  subst hj
  have hm : m < 2147483648 := by omega
  exact r_newarray C hd hp hty w (i32_nn hm) (by rw [i32_clamp hm]; exact hcap) hb' hc hl fun h' a k e E A => r h' a k e E (av_new hm A)
theorem r_anewarrayV (C : Ctx l R Z own nm code maxL ret fl n0 kz K) {idx : Nat} {Cn : String} {j : Int32} {m cap : Nat} (hd : decode code pc = .ok (.anewarray idx, 3)) (hp : pc + 3 = pc') (w : (Jvm.Cond.classLink own idx Cn).before a0 Z = true) (w2 : (Jvm.Cond.arrayOver (.object Cn)).before a0 Z = true) (hj : j = i32 m) (hcap : m ≤ cap) (hb' : cap * 8 ≤ 536870912) (hc : cells + 1 ≤ R.cells) (hl : slots + cap ≤ R.slots)
    (r : ∀ h' a k, a = h.size → Ext h h' → AV Z h' a k (.object Cn) (List.replicate m .null) .null → Ovr Z k Cn → Run l R n0 Q K h' (cells + 1) (slots + cap) pc' Ls (.ref a :: st)) : Run l R n0 Q K h cells slots pc Ls (.int j :: st) := by
  subst hj
  have hm : m < 2147483648 := by omega
  exact r_anewarray C hd hp w w2 (i32_nn hm) (by rw [i32_clamp hm]; exact hcap) hb' hc hl fun h' a k e E A O => r h' a k e E (av_new hm A) O
theorem Keep.mono {h0 h' : Heap} {ws ws' : List Addr} (Kp : Keep h0 h' ws) (q : ∀ x ∈ ws, x ∈ ws') : Keep h0 h' ws' := ⟨Kp.1, fun x c hx r => Kp.2.1 x c hx fun z => r (q x z), Kp.2.2⟩
theorem Sta.keep {h' : Heap} {ws : List Addr} {Cn n d : String} {v : Value} (X : Old Z n0 h) (F : Sta Z Z.heap Cn n d v) : Sta Z h Cn n d v := F.ext X.2
/-! String constants -/
abbrev STR : String := "java/lang/String"
/-- a Latin-1 String: its object, its byte[] -/
def Str (Z : State) (h : Heap) (a b : Nat) (k : ClassId) (bs : List Int32) : Prop := Exa Z h a "java/lang/String" ∧ Fld Z h a "java/lang/String" "coder" "B" (.int 0) ∧ Fld Z h a "java/lang/String" "value" "[B" (.ref b) ∧ AV Z h b k .byte (bs.map Value.int) (.int 0)
theorem Str.ext {a b : Nat} {k : ClassId} {bs : List Int32} {h' : Heap} (F : Str Z h a b k bs) (E : Ext h h') : Str Z h' a b k bs := ⟨F.1.ext E, F.2.1.ext E, F.2.2.1.ext E, F.2.2.2.ext E⟩
theorem Str.keep {a b : Nat} {k : ClassId} {bs : List Int32} {h' : Heap} {ws : List Addr} (F : Str Z h a b k bs) (Kp : Keep h h' ws) (q1 : a ∉ ws) (q2 : b ∉ ws) : Str Z h' a b k bs := ⟨F.1.keep Kp, F.2.1.keep Kp q1, F.2.2.1.keep Kp q1, F.2.2.2.keep Kp q2⟩
theorem Str.other {a b x : Nat} {k : ClassId} {bs : List Int32} {h' : Heap} {sl : Nat} {v : Value} (F : Str Z h a b k bs) (W : Wr h h' x sl v) (q1 : a ≠ x) (q2 : b ≠ x) : Str Z h' a b k bs := ⟨F.1.wr W, F.2.1.other W (Or.inl q1), F.2.2.1.other W (Or.inl q1), F.2.2.2.other W q2⟩
theorem Str.lt {a b : Nat} {k : ClassId} {bs : List Int32} (F : Str Z h a b k bs) : a < h.size ∧ b < h.size := ⟨F.1.lt, F.2.2.2.lt⟩
theorem Lit.warm {vm vm' : Vm} {cn : String} {i : Nat} {a : Addr} (L : Lit (Z.setVm vm) cn i a) {s : State} (hW : (s.setVm vm).WarmedH vm') : Lit (Z.setVm vm') cn i a := (State.resolvedAt?_warmed39 (s := s.setVm vm) hW.wide L : (s.setVm vm').resolvedAt? cn i = _)
theorem IB.warm {vm vm' : Vm} {Ts : List String} (I : IB Z vm Ts) {s : State} (hW : (s.setVm vm).WarmedH vm') : IB Z vm' Ts := by
  obtain ⟨more, e, hm⟩ := I
  exact ⟨more, (hW.interned_eq).trans e, hm⟩
theorem KS_Kw {Pl : List Loc → Prop} {vm : Vm} : KS (Kw K Pl vm) = (KS K).setVm vm := by
  obtain ⟨_, En, p, e, s, m, args, below, meth, c⟩ := K; rfl
/-- the first load of a String constant, nothing yet written to what stood at the body's start -/
theorem r_ldcS {h0 : Heap} {vm : Vm} {k : Nat} {idx n : Nat} {text : String} {Ts : List String} {bs : List Int32} (W : Wb l R Z own nm code maxL ret n0 h0 K) (D : Sn K vm k) (hk : k ≤ h.size) (hd : decode code pc = .ok (.ldc idx, 2)) (hp : pc + 2 = pc') (w : (Jvm.Cond.stringLink own idx text).before a0 Z = true) (wS : ∀ a ∈ Bundle.stringAtoms, a.before a0 Z = true) (hkeep : ∀ (b : Addr) (cl : Cell), Z.heap[b]? = some cl → h0[b]? = some cl)
    (I : IB Z vm Ts) (hnot : text ∉ Ts) (hh : Jvm.Lit.constHeld Z own idx) (hcw : Jvm.Lit.compactW.before a0 Z = true) (ht : (∀ c ∈ text.toList, c.toNat < 256) ∧ text.toList.map (fun c => Value.int (Jvm.Lit.byteI c.toNat.toUInt16)) = bs.map Value.int) (hbl : bs.length < 2147483648) (hn : 4 * text.toList.length ≤ n) (hbig : n ≤ 536870912) (hc : cells + 2 ≤ R.cells) (hl : slots + (n + 4) ≤ R.slots)
    (r : ∀ vm' k' h' a b kb, Sn K vm' k' → k' ≤ h'.size → Ext h h' → Str Z h' a b kb bs → IB Z vm' (text :: Ts) → Lit (Z.setVm vm') own idx a → (KS K).Since vm' k' → Run l R n0 Q (Kw K (· = []) vm') h' (cells + 2) (slots + (n + 4)) pc' Ls (.ref a :: st)) : Run l R n0 Q (Kw K (· = []) vm) h cells slots pc Ls st := by
  obtain ⟨Pl, En, p, e, s, m, args, below, meth, c⟩ := K
  intro T locs X eT N
  subst hp
  obtain ⟨w1, w2, w3, w4, w5, w6, w7, w8, w9, w10⟩ := W
  have N' : locs = [] := N
  have D' : s.Since vm k := D
  have hZ : Z.Warmed39 vm := State.Warmed39.trans w2 D'.1
  have hown : vm.findClass own = some m.cls := by rw [D'.1.alike.findClass]; exact w3
  have z31 : (i32 bs.length).toNatClampNeg = (bs.map Value.int).length := by rw [i32_clamp hbl, List.length_map]
  obtain ⟨a, T', h', k1, b, kb, r1, r2, r3, r4, r5, r6, r7, r8, r9, r10, r11, r12, r13, r14, r15, r16⟩ := ldcSVL (Z := Z) (s := s) X w1 hZ hown w wS eT D' hk (by rw [N']; exact Fr.nil _) (fun b cl q => by rw [w9]; exact hkeep b cl q) I hnot hh hcw ht (i32_nn hbl) z31 (g := mkF m pc Ls st) rfl (hb w4 hd) hn hbig hc hl
  obtain ⟨s2, o, q1, q2⟩ := r T'.vm k1 h' a b kb r4 r5 r3 ⟨r8, r9, r10, ⟨by rw [List.length_map]; exact r11, by rw [List.length_map]; exact hbl⟩⟩ r14 r15 r4 T' locs r1 r2 N
  exact ⟨s2, o, r16 _ q1, q2⟩
theorem r_ldcA {Pl : List Loc → Prop} {h0 : Heap} {vm : Vm} {k : Nat} {idx : Nat} {text : String} {a : Addr} (W : Wb l R Z own nm code maxL ret n0 h0 K) (D : Sn K vm k) (hd : decode code pc = .ok (.ldc idx, 2)) (hp : pc + 2 = pc') (w : (Jvm.Cond.stringLink own idx text).before a0 Z = true) (L : Lit (Z.setVm vm) own idx a)
    (r : Run l R n0 Q (Kw K Pl vm) h cells slots pc' Ls (.ref a :: st)) : Run l R n0 Q (Kw K Pl vm) h cells slots pc Ls st := by
  obtain ⟨_, En, p, e, s, m, args, below, meth, c⟩ := K
  intro T locs X eT N
  subst hp
  obtain ⟨w1, w2, w3, w4, w5, w6, w7, w8, w9, w10⟩ := W
  have D' : s.Since vm k := D
  have hZ : Z.Warmed39 vm := State.Warmed39.trans w2 D'.1
  have hown : vm.findClass own = some m.cls := by rw [D'.1.alike.findClass]; exact w3
  obtain ⟨s2, o, q1, q2⟩ := r T locs X eT N
  exact ⟨s2, o, ldcAgain (Z := Z) (s := s) X w1 hZ hown w L (g := mkF m pc Ls st) rfl (hb w4 hd) _ q1, q2⟩
theorem ConW.back {y : MethodName} {bytes : ByteArray} {mL : Nat} {rt : Option FieldType} {rm : Room} {as : Array Value} {V : Vm → Prop} {Q' : Option Value → Heap → Vm → Prop} {len W : Nat} {p : Program} {e : Env} {below : List Frame} {s : State} {args : Array Value} (M : ConW l [] y bytes mL rt rm Z as h n0 V Q') (hZ : Z.Warmed39 s.vm) (wc : (Jvm.Cond.code y bytes mL rt).before a0 Z = true) (wz : (Jvm.Cond.initialized y.cls).before a0 Z = true) (hf : rm.frames + 1 ≤ R.frames) (hl : W + (mL + 11) + rm.locals ≤ R.locals) :
    BackS l R p e below s args y len W (fun A a => a = as ∧ A.U.heap = h ∧ A.cells + rm.cells ≤ R.cells ∧ A.slots + rm.slots ≤ R.slots ∧ V A.U.vm) (fun A _ v B => ∃ L, (Q' v B.U.heap B.U.vm ∧ Fr n0 L) ∧ B.locs = A.locs ++ L ∧ B.cells = A.cells + rm.cells ∧ B.slots = A.slots + rm.slots) :=
  BackS.of_freeW (bytes := bytes) (maxL := mL) (ret := rt) (E := fun _ _ o t L k n => k = rm.cells ∧ n = rm.slots ∧ ∃ v, o = .returned v ∧ (Q' v t.heap t.vm ∧ Fr n0 L)) M hf hl
    (fun m meth c A a Y hp => have hU : Z.Warmed39 A.U.vm := wtrans hZ Y.warmed
      ⟨by show (Jvm.Cond.and _ .tt).before a A.U = true; rw [Cond.before_and, mv hU wc]; rfl, mv hU wc, mv hU wz, hp.2.2.1, hp.2.2.2.1⟩)
    (fun m meth c A a g mk Y hp => ⟨hp.1, wtrans hZ Y.warmed, hp.2.1, hp.2.2.2.2⟩) (fun _ _ _ _ _ _ _ _ _ => trivial)
    (fun _ _ _ _ ⟨v, L, h1, h2, h3⟩ => ⟨L, _, _, h3, rfl, rfl, v, h1, h2⟩)
    (fun m meth c A a g mk v t L k n Y hp _ _ ⟨e1, e2, v', e3, e4⟩ => by cases e3; subst e1 e2; exact ⟨L, e4, rfl, rfl, rfl⟩)
/-- a static method that may intern -/
theorem r_callSW {h0 : Heap} {vm : Vm} {k0 : Nat} {idx : Nat} {y : MethodName} {bytes : ByteArray} {mL : Nat} {rt : Option FieldType} {rm : Room} {argsL : List Value} {V : Vm → Prop} {Q' : Option Value → Heap → Vm → Prop} {ps : List FieldType} {rr : Option FieldType} {W cells' slots' : Nat} {stk : List Value}
    (B : Wb l R Z own nm code maxL ret n0 h0 K) (D : Sn K vm k0) (hk0 : k0 ≤ h.size) (M : ConW l [] y bytes mL rt rm Z argsL.toArray h n0 V Q') (hV : ∀ vm', ((KS K).setVm vm).WarmedH vm' → V vm') (hd : decode code pc = .ok (.invokestatic idx, 3)) (hp : pc + 3 = pc') (v1 : (Jvm.Cond.methodLink own idx y).before a0 Z = true) (v2 : (Jvm.Cond.static y).before a0 Z = true) (v3 : (Jvm.Cond.initialized y.cls).before a0 Z = true) (v4 : (Jvm.Cond.code y bytes mL rt).before a0 Z = true)
    (hy : y.cls ≠ "java/lang/invoke/MethodHandle" ∧ y.cls ≠ "java/lang/invoke/VarHandle") (pd : parseMethodDescriptor y.desc = some ⟨ps, rr⟩) (hlen : argsL.length = ps.length) (hst : stk = argsL.reverse ++ st) (hsz : Ls.size = maxL) (hW : (st.map fun v => v.category).sum ≤ W)
    (hf : rm.frames + 1 ≤ R.frames) (hlo : W + (mL + 11) + rm.locals ≤ R.locals) (hc : cells + rm.cells ≤ R.cells) (hs : slots + rm.slots ≤ R.slots) (ec : cells + rm.cells = cells') (es : slots + rm.slots = slots')
    (r : ∀ v h' vm', Q' v h' vm' → h.size ≤ h'.size → Sn K vm' h'.size → Run l R n0 Q (Kw K (Fr n0) vm') h' cells' slots' pc' Ls (v.toList ++ st)) : Run l R n0 Q (Kw K (Fr n0) vm) h cells slots pc Ls stk := by
  obtain ⟨Pl, En, p, e, s, m, args, below, meth, c⟩ := K
  intro T locs X eT N
  obtain ⟨w1, w2, w3, w4, w5, w6, w7, w8, w9, w10⟩ := B
  have D' : s.Since vm k0 := D
  have hZ : Z.Warmed39 (s.setVm vm).vm := State.Warmed39.trans w2 D'.1
  have hown : (s.setVm vm).vm.findClass own = some m.cls := by rw [show (s.setVm vm).vm = vm from rfl, D'.1.alike.findClass]; exact w3
  have hx := w1
  subst hp hst ec es
  obtain ⟨v, _, ⟨T', L', k', n'⟩, -, X', hS, hgr, ⟨Lc, ⟨hQ, N'⟩, l', y', z'⟩, s'⟩ := callSS X hx (y := y) hown (mvT hZ v1) (mvT hZ v2) (mvT hZ v3) (mvT hZ v4) hy (ConW.back (W := W) M hZ v4 v3 hf hlo) (g := mkF m pc Ls (argsL.reverse ++ st)) rfl (by show Ls.size = _; rw [w5]; exact hsz) (argsL := argsL) (rest := st) (lenOf pd hlen) rfl (by show 2 * 0 + _ ≤ _; omega) (hb w4 hd) (fun vm₁ q => ⟨rfl, eT, hc, hs, hV vm₁ q⟩)
  dsimp only [Pt.U, Pt.locs, Pt.cells, Pt.slots] at X' hS hgr l' y' z' s' hQ N'
  subst l' y' z'
  have hk1 : k0 ≤ T.heap.size := by rw [eT]; exact hk0
  obtain ⟨s2, o, k1, k2⟩ := r v T'.heap T'.vm hQ (by rw [← eT]; exact hgr) (D'.trans hS (Nat.le_trans hk1 hgr)) T' _ X' rfl (Fr.app N N')
  exact ⟨s2, o, s'.trans k1, k2⟩
/-- a constructor that may intern -/
theorem r_callIW {h0 : Heap} {vm : Vm} {k0 : Nat} {idx : Nat} {y : MethodName} {a : Addr} {bytes : ByteArray} {mL : Nat} {rt : Option FieldType} {rm : Room} {argsL : List Value} {V : Vm → Prop} {Q' : Option Value → Heap → Vm → Prop} {ps : List FieldType} {rr : Option FieldType} {W cells' slots' : Nat} {stk : List Value}
    (B : Wb l R Z own nm code maxL ret n0 h0 K) (D : Sn K vm k0) (hk0 : k0 ≤ h.size) (M : ConW l [] y bytes mL none rm Z (.ref a :: argsL).toArray h n0 V Q') (hV : ∀ vm', ((KS K).setVm vm).WarmedH vm' → V vm') (hd : decode code pc = .ok (.invokespecial idx, 3)) (hp : pc + 3 = pc') (v1 : (Jvm.Cond.methodLink own idx y).before a0 Z = true) (v2 : (Jvm.Cond.instanceMethod y).before a0 Z = true) (v3 : (Jvm.Cond.initialized y.cls).before a0 Z = true) (v4 : (Jvm.Cond.code y bytes mL none).before a0 Z = true) (hin : y.name = "<init>")
    (hy : y.cls ≠ "java/lang/invoke/MethodHandle" ∧ y.cls ≠ "java/lang/invoke/VarHandle") (pd : parseMethodDescriptor y.desc = some ⟨ps, rr⟩) (hlen : argsL.length = ps.length) (hst : stk = argsL.reverse ++ .ref a :: st) (hsz : Ls.size = maxL) (hW : (st.map fun v => v.category).sum ≤ W)
    (hf : rm.frames + 1 ≤ R.frames) (hlo : W + (mL + 11) + rm.locals ≤ R.locals) (hc : cells + rm.cells ≤ R.cells) (hs : slots + rm.slots ≤ R.slots) (ec : cells + rm.cells = cells') (es : slots + rm.slots = slots')
    (r : ∀ v h' vm', Q' v h' vm' → h.size ≤ h'.size → Sn K vm' h'.size → Run l R n0 Q (Kw K (Fr n0) vm') h' cells' slots' pc' Ls (v.toList ++ st)) : Run l R n0 Q (Kw K (Fr n0) vm) h cells slots pc Ls stk := by
  obtain ⟨Pl, En, p, e, s, m, args, below, meth, c⟩ := K
  intro T locs X eT N
  obtain ⟨w1, w2, w3, w4, w5, w6, w7, w8, w9, w10⟩ := B
  have D' : s.Since vm k0 := D
  have hZ : Z.Warmed39 (s.setVm vm).vm := State.Warmed39.trans w2 D'.1
  have hown : (s.setVm vm).vm.findClass own = some m.cls := by rw [show (s.setVm vm).vm = vm from rfl, D'.1.alike.findClass]; exact w3
  have hx := w1
  subst hp hst ec es
  obtain ⟨v, _, ⟨T', L', k', n'⟩, -, X', hS, hgr, ⟨Lc, ⟨hQ, N'⟩, l', y', z'⟩, s'⟩ := X.specialBackS hx (y := y) hin hown (mvT hZ v1) (mvT hZ v2) (mvT hZ v4) hy (ConW.back (W := W) M hZ v4 v3 hf hlo) (g := mkF m pc Ls (argsL.reverse ++ .ref a :: st)) rfl (by show Ls.size = _; rw [w5]; exact hsz) (Steps.refl _) (a := a) (argsL := argsL) (rest := st) (lenOf pd hlen) rfl (by show 2 * 0 + _ ≤ _; omega) (hb w4 hd) (fun vm₁ q => ⟨rfl, eT, hc, hs, hV vm₁ q⟩)
  dsimp only [Pt.U, Pt.locs, Pt.cells, Pt.slots] at X' hS hgr l' y' z' s' hQ N'
  subst l' y' z'
  have hk1 : k0 ≤ T.heap.size := by rw [eT]; exact hk0
  obtain ⟨s2, o, k1, k2⟩ := r v T'.heap T'.vm hQ (by rw [← eT]; exact hgr) (D'.trans hS (Nat.le_trans hk1 hgr)) T' _ X' rfl (Fr.app N N')
  exact ⟨s2, o, s'.trans k1, k2⟩
/-- an instance method that may intern -/
theorem r_callVW {h0 : Heap} {vm : Vm} {k0 : Nat} {idx : Nat} {y z : MethodName} {Cn : String} {a : Addr} {bytes : ByteArray} {mL : Nat} {rt : Option FieldType} {rm : Room} {argsL : List Value} {V : Vm → Prop} {Q' : Option Value → Heap → Vm → Prop} {ps : List FieldType} {rr : Option FieldType} {W cells' slots' : Nat} {stk : List Value}
    (B : Wb l R Z own nm code maxL ret n0 h0 K) (D : Sn K vm k0) (hk0 : k0 ≤ h.size) (M : ConW l [] z bytes mL rt rm Z (.ref a :: argsL).toArray h n0 V Q') (E : Exa Z h a Cn) (hV : ∀ vm', ((KS K).setVm vm).WarmedH vm' → V vm') (hd : decode code pc = .ok (.invokevirtual idx, 3)) (hp : pc + 3 = pc') (v1 : (Jvm.Cond.methodLink own idx y).before a0 Z = true) (vd : (Jvm.Cond.declares y).before a0 Z = true) (nf : ∀ (s : State) (args : Array Value), Z.Warmed39 s.vm → NotFace s y) (vs : (Jvm.Cond.selects Cn y z).before a0 Z = true) (v2 : (Jvm.Cond.instanceMethod z).before a0 Z = true) (v3 : (Jvm.Cond.initialized z.cls).before a0 Z = true) (v4 : (Jvm.Cond.code z bytes mL rt).before a0 Z = true)
    (hy : y.cls ≠ "java/lang/invoke/MethodHandle" ∧ y.cls ≠ "java/lang/invoke/VarHandle") (pd : parseMethodDescriptor y.desc = some ⟨ps, rr⟩) (hlen : argsL.length = ps.length) (hst : stk = argsL.reverse ++ .ref a :: st) (hsz : Ls.size = maxL) (hW : (st.map fun v => v.category).sum ≤ W)
    (hf : rm.frames + 1 ≤ R.frames) (hlo : W + (mL + 11) + rm.locals ≤ R.locals) (hc : cells + rm.cells ≤ R.cells) (hs : slots + rm.slots ≤ R.slots) (ec : cells + rm.cells = cells') (es : slots + rm.slots = slots')
    (r : ∀ v h' vm', Q' v h' vm' → h.size ≤ h'.size → Sn K vm' h'.size → Run l R n0 Q (Kw K (Fr n0) vm') h' cells' slots' pc' Ls (v.toList ++ st)) : Run l R n0 Q (Kw K (Fr n0) vm) h cells slots pc Ls stk := by
  obtain ⟨Pl, En, p, e, s, m, args, below, meth, c⟩ := K
  intro T locs X eT N
  obtain ⟨w1, w2, w3, w4, w5, w6, w7, w8, w9, w10⟩ := B
  have D' : s.Since vm k0 := D
  have hZ : Z.Warmed39 (s.setVm vm).vm := State.Warmed39.trans w2 D'.1
  have hown : (s.setVm vm).vm.findClass own = some m.cls := by rw [show (s.setVm vm).vm = vm from rfl, D'.1.alike.findClass]; exact w3
  have hx := w1
  subst hp hst ec es
  obtain ⟨cq, kq, qa, qb, qc⟩ := isOf (T := T) hZ eT E
  obtain ⟨v, _, ⟨T', L', k', n'⟩, -, X', hS, hgr, ⟨Lc, ⟨hQ, N'⟩, l', y', z'⟩, s'⟩ := X.virtualBackS hx (y := y) (z := z) hown (mvT hZ v1) (mvT hZ vd) (nf (s.setVm vm) args hZ) (mvT hZ vs) (mvT hZ v2) hy (ConW.back (W := W) M hZ v4 v3 hf hlo) qa qc (g := mkF m pc Ls (argsL.reverse ++ .ref a :: st)) rfl (by show Ls.size = _; rw [w5]; exact hsz) (Steps.refl _) (argsL := argsL) (rest := st) (lenOf pd hlen) rfl (by show 2 * 0 + _ ≤ _; omega) (hb w4 hd) (fun vm₁ q => ⟨rfl, eT, hc, hs, hV vm₁ q⟩)
  dsimp only [Pt.U, Pt.locs, Pt.cells, Pt.slots] at X' hS hgr l' y' z' s' hQ N'
  subst l' y' z'
  have hk1 : k0 ≤ T.heap.size := by rw [eT]; exact hk0
  obtain ⟨s2, o, k1, k2⟩ := r v T'.heap T'.vm hQ (by rw [← eT]; exact hgr) (D'.trans hS (Nat.le_trans hk1 hgr)) T' _ X' rfl (Fr.app N N')
  exact ⟨s2, o, s'.trans k1, k2⟩
theorem r_return (C : Ctx l R Z own nm code maxL none fl n0 kz K) (hd : decode code pc = .ok (.return_, 1)) (hc : cells ≤ R.cells) (hs : slots ≤ R.slots) (hk : kz ≤ h.size) (q : ∀ vm, (KS K).WarmedH vm → Q none h vm) : Run l R n0 Q K h cells slots pc Ls [] := by
  obtain ⟨Pl, En, p, e, s, m, args, below, meth, c⟩ := K
  intro T locs X eT N
  obtain ⟨hx, hZ, hown, hby, hml, hret, hnm, hlk, hcl, hfr, hen⟩ := C
  obtain ⟨fs, hr, hrun, hended, hW, hsame⟩ := X.leave (v := none) (fun _ => rfl)
  exact ⟨_, _, X.returnOut hx hret (hb hby hd) hr, hrun, hended, none, locs, rfl, ⟨by show Q none T.heap _; rw [eT]; exact q _ hW, hfr _ N⟩, hen _ _ _ (by show kz ≤ T.heap.size; rw [eT]; exact hk) hW (hsame.mono hc hs)⟩
theorem r_ret {t : FieldType} (C : Ctx l R Z own nm code maxL (some t) fl n0 kz K) {i : Instr} {v : Value} (hd : decode code pc = .ok (i, 1)) (hn : narrow t v = v)
    (hi : (i = .ireturn ∧ (t = .int ∨ t = .boolean ∨ t = .byte ∨ t = .char ∨ t = .short) ∧ ∃ z, v = .int z) ∨ (i = .lreturn ∧ t = .long ∧ ∃ z, v = .long z) ∨ (i = .dreturn ∧ t = .double ∧ ∃ z, v = .double z) ∨ (i = .freturn ∧ t = .float ∧ ∃ z, v = .float z) ∨ (i = .areturn ∧ t.isReference = true ∧ v.isRef = true))
    (hc : cells ≤ R.cells) (hs : slots ≤ R.slots) (hk : kz ≤ h.size) (q : ∀ vm, (KS K).WarmedH vm → Q (some v) h vm) : Run l R n0 Q K h cells slots pc Ls (v :: st) := by
  obtain ⟨Pl, En, p, e, s, m, args, below, meth, c⟩ := K
  intro T locs X eT N
  obtain ⟨hx, hZ, hown, hby, hml, hret, hnm, hlk, hcl, hfr, hen⟩ := C
  obtain ⟨fs, hr, hrun, hended, hW, hsame⟩ := X.leave (v := some v) (fun hh => by rw [hret] at hh; cases hh)
  exact ⟨_, _, retOut X hx hret hn hi (hb hby hd) hr, hrun, hended, some v, locs, rfl, ⟨by show Q (some v) T.heap _; rw [eT]; exact q _ hW, hfr _ N⟩, hen _ _ _ (by show kz ≤ T.heap.size; rw [eT]; exact hk) hW (hsame.mono hc hs)⟩
theorem r_ireturn (C : Ctx l R Z own nm code maxL (some .int) fl n0 kz K) {x : Int32} (hd : decode code pc = .ok (.ireturn, 1)) (hc : cells ≤ R.cells) (hs : slots ≤ R.slots) (hk : kz ≤ h.size) (q : ∀ vm, (KS K).WarmedH vm → Q (some (.int x)) h vm) : Run l R n0 Q K h cells slots pc Ls (.int x :: st) :=
  r_ret C hd rfl (Or.inl ⟨rfl, Or.inl rfl, _, rfl⟩) hc hs hk q
theorem r_zreturn (C : Ctx l R Z own nm code maxL (some .boolean) fl n0 kz K) {x : Int32} (hd : decode code pc = .ok (.ireturn, 1)) (hn : narrow .boolean (.int x) = .int x) (hc : cells ≤ R.cells) (hs : slots ≤ R.slots) (hk : kz ≤ h.size) (q : ∀ vm, (KS K).WarmedH vm → Q (some (.int x)) h vm) : Run l R n0 Q K h cells slots pc Ls (.int x :: st) :=
  r_ret C hd hn (Or.inl ⟨rfl, Or.inr (Or.inl rfl), _, rfl⟩) hc hs hk q
theorem r_creturn (C : Ctx l R Z own nm code maxL (some .char) fl n0 kz K) {x : Int32} (hd : decode code pc = .ok (.ireturn, 1)) (hn : narrow .char (.int x) = .int x) (hc : cells ≤ R.cells) (hs : slots ≤ R.slots) (hk : kz ≤ h.size) (q : ∀ vm, (KS K).WarmedH vm → Q (some (.int x)) h vm) : Run l R n0 Q K h cells slots pc Ls (.int x :: st) :=
  r_ret C hd hn (Or.inl ⟨rfl, Or.inr (Or.inr (Or.inr (Or.inl rfl))), _, rfl⟩) hc hs hk q
theorem r_breturn (C : Ctx l R Z own nm code maxL (some .byte) fl n0 kz K) {x : Int32} (hd : decode code pc = .ok (.ireturn, 1)) (hn : narrow .byte (.int x) = .int x) (hc : cells ≤ R.cells) (hs : slots ≤ R.slots) (hk : kz ≤ h.size) (q : ∀ vm, (KS K).WarmedH vm → Q (some (.int x)) h vm) : Run l R n0 Q K h cells slots pc Ls (.int x :: st) :=
  r_ret C hd hn (Or.inl ⟨rfl, Or.inr (Or.inr (Or.inl rfl)), _, rfl⟩) hc hs hk q
theorem r_lreturn (C : Ctx l R Z own nm code maxL (some .long) fl n0 kz K) {x : Int64} (hd : decode code pc = .ok (.lreturn, 1)) (hc : cells ≤ R.cells) (hs : slots ≤ R.slots) (hk : kz ≤ h.size) (q : ∀ vm, (KS K).WarmedH vm → Q (some (.long x)) h vm) : Run l R n0 Q K h cells slots pc Ls (.long x :: st) :=
  r_ret C hd rfl (Or.inr (Or.inl ⟨rfl, rfl, _, rfl⟩)) hc hs hk q
theorem r_areturn {t : FieldType} (C : Ctx l R Z own nm code maxL (some t) fl n0 kz K) {v : Value} (hd : decode code pc = .ok (.areturn, 1)) (ht : t.isReference = true) (hv : v.isRef = true) (hc : cells ≤ R.cells) (hs : slots ≤ R.slots) (hk : kz ≤ h.size) (q : ∀ vm, (KS K).WarmedH vm → Q (some v) h vm) : Run l R n0 Q K h cells slots pc Ls (v :: st) :=
  r_ret C hd (by rcases ref_cases hv with rfl | ⟨z, rfl⟩ <;> cases t <;> first | rfl | (cases ht; done)) (Or.inr (Or.inr (Or.inr (Or.inr ⟨rfl, ht, hv⟩)))) hc hs hk q
end
abbrev i64 (n : Nat) : Int64 := Int64.ofNat n
theorem i64_toInt {n : Nat} (h : n < 9223372036854775808) : (i64 n).toInt = (n : Int) := Int64.toInt_ofNat_of_lt h
theorem i64_lt {a b : Nat} (ha : a < 9223372036854775808) (hb : b < 9223372036854775808) : i64 a < i64 b ↔ a < b := by
  rw [Int64.lt_iff_toInt_lt, i64_toInt ha, i64_toInt hb]; omega
theorem i64_eq {a b : Nat} (ha : a < 9223372036854775808) (hb : b < 9223372036854775808) : i64 a = i64 b ↔ a = b := by
  rw [← Int64.toInt_inj, i64_toInt ha, i64_toInt hb]; omega
theorem i64_add (a b : Nat) : i64 a + i64 b = i64 (a + b) := (Int64.ofNat_add a b).symm
theorem i64_mul (a b : Nat) : i64 a * i64 b = i64 (a * b) := (Int64.ofNat_mul a b).symm
theorem i64_sub {a b : Nat} (h : b ≤ a) : i64 a - i64 b = i64 (a - b) := by
  have e : i64 a = i64 (a - b) + i64 b := by rw [i64_add]; congr 1; omega
  rw [e, Int64.add_sub_cancel]
theorem i64_div {a b : Nat} (ha : a < 9223372036854775808) (hb : b < 9223372036854775808) : i64 a / i64 b = i64 (a / b) := by
  apply Int64.toInt_inj.mp
  have hq : a / b < 9223372036854775808 := Nat.lt_of_le_of_lt (Nat.div_le_self a b) ha
  rw [Int64.toInt_div, i64_toInt ha, i64_toInt hb, i64_toInt hq, Int.tdiv_eq_ediv_of_nonneg (by omega)]
  have e : (a : Int) / (b : Int) = ((a / b : Nat) : Int) := rfl
  rw [e]; exact Int.bmod_eq_of_le (by have := Int.natCast_nonneg (a / b); omega) (by omega)
theorem i64_rem {a b : Nat} (ha : a < 9223372036854775808) (hb : b < 9223372036854775808) : i64 a - (i64 a / i64 b) * i64 b = i64 (a % b) := by
  rw [i64_div ha hb, i64_mul, i64_sub (Nat.div_mul_le_self a b)]
  congr 1
  have := Nat.div_add_mod a b
  rw [Nat.mul_comm] at this; omega
theorem i64_of32 {n : Nat} (h : n < 2147483648) : (i32 n).toInt64 = i64 n := by
  rw [← Int64.toInt_inj, Int32.toInt_toInt64, i32_toInt h, i64_toInt (by omega)]
theorem i32_of64 {n : Nat} : (i64 n).toInt32 = i32 n := Int64.toInt32_ofNat
theorem i64_and (x : Int64) : ∃ n, n < 9223372036854775808 ∧ x &&& 9223372036854775807 = i64 n := by
  have h : (x &&& 9223372036854775807).toBitVec.toNat ≤ 9223372036854775807 := by
    rw [Int64.toBitVec_and, BitVec.toNat_and]; exact Nat.and_le_right
  refine ⟨(x &&& 9223372036854775807).toBitVec.toNat, by omega, ?_⟩
  apply Int64.toBitVec_inj.mp
  apply BitVec.eq_of_toNat_eq
  show _ = _ % 2 ^ 64
  omega
theorem i32_and (x : Int32) : ∃ n, n < 2147483648 ∧ x &&& 2147483647 = i32 n := by
  have h : (x &&& 2147483647).toBitVec.toNat ≤ 2147483647 := by
    rw [Int32.toBitVec_and, BitVec.toNat_and]; exact Nat.and_le_right
  refine ⟨(x &&& 2147483647).toBitVec.toNat, by omega, ?_⟩
  apply Int32.toBitVec_inj.mp
  apply BitVec.eq_of_toNat_eq
  show _ = _ % 2 ^ 32
  omega
def by8 (c : Nat) : Int32 := (i32 c).toInt8.toInt32
abbrev ch16 (x : Int32) : Int32 := x.toUInt32.toUInt16.toUInt32.toInt32
theorem own_byF : ∀ c : Fin 256, (by8 c &&& 255).toUInt32.toUInt16.toUInt32.toInt32 = i32 c := by decide +kernel
theorem own_byte {c : Nat} (h : c < 256) : (by8 c &&& 255).toUInt32.toUInt16.toUInt32.toInt32 = i32 c := own_byF ⟨c, h⟩
theorem own_ch {c : Nat} (h : c < 65536) : (i32 c).toUInt32.toUInt16.toUInt32.toInt32 = i32 c := by
  apply Int32.toBitVec_inj.mp
  apply BitVec.eq_of_toNat_eq
  show ((UInt32.ofNat c).toUInt16.toUInt32).toNat = c % 2 ^ 32
  rw [UInt16.toNat_toUInt32, UInt32.toNat_toUInt16]
  show c % 2 ^ 32 % 2 ^ 16 = c % 2 ^ 32
  omega
theorem own_chn {c : Nat} (h : c < 65536) : nar .char (i32 c) = i32 c := own_ch h
theorem own_shr0 (x : Int32) : x >>> ((0 : Int32) &&& 31) = x := by
  show x >>> (0 : Int32) = x
  simp
theorem own_narF : ∀ c : Fin 65536, narrow .char (.int (i32 c)) = .int (i32 c) := fun c => by
  show Value.int ((i32 c).toUInt32.toUInt16.toUInt32.toInt32) = _
  rw [own_ch c.2]
theorem own_bynar (c : Nat) : nar .byte (by8 c) = by8 c := by
  show (by8 c).toInt8.toInt32 = _
  simp [by8]
theorem own_coder0 (n : Nat) : (XT.ushr (i32 n - i32 n) 31).toInt8.toInt32 = 0 := by
  rw [Int32.sub_self]; decide
/-- the statics that Strings read -/
def own_SS (Z : State) (cc : Int32) (fv : Value) : Prop := Sta Z Z.heap "java/lang/String" "COMPACT_STRINGS" "Z" (.int cc) ∧ cc ≠ 0 ∧ Sta Z Z.heap "jdk/internal/util/Preconditions" "SIOOBE_FORMATTER" "Ljava/util/function/BiFunction;" fv ∧ fv.isRef = true
/-- a Latin-1 String of these signs -/
abbrev St (Z : State) (h : Heap) (a b : Nat) (k : ClassId) (cs : List Nat) : Prop := Str Z h a b k (cs.map by8)
def vch (c : Nat) : Value := .int (i32 c)
theorem own_bget {cs : List Nat} {i c : Nat} (h : cs[i]? = some c) : ((cs.map by8).map Value.int)[i]? = some (.int (by8 c)) := by simp [h]
theorem own_cget {cs : List Nat} {i c : Nat} (h : cs[i]? = some c) : (cs.map vch)[i]? = some (.int (i32 c)) := by simp [h, vch]
theorem own_blen (cs : List Nat) : ((cs.map by8).map Value.int).length = cs.length := by simp
theorem own_clen (cs : List Nat) : (cs.map vch).length = cs.length := by simp
theorem own_tset {α : Type} (ws : List α) (i : Nat) (x : α) (h : i < ws.length) : (ws.set i x).take (i + 1) = ws.take i ++ [x] := by
  apply List.ext_getElem?
  intro j
  by_cases hj : j < i
  · rw [List.getElem?_take_of_lt (by omega), List.getElem?_set_ne (by omega), List.getElem?_append_left (by rw [List.length_take]; omega), List.getElem?_take_of_lt hj]
  · by_cases e : j = i
    · subst e
      rw [List.getElem?_take_of_lt (by omega), List.getElem?_set_self h, List.getElem?_append_right (by rw [List.length_take]; omega)]
      simp [List.length_take, Nat.min_eq_left (Nat.le_of_lt h)]
    · rw [List.getElem?_eq_none (by rw [List.length_take, List.length_set]; omega), List.getElem?_eq_none (by simp [List.length_take]; omega)]
theorem own_take1 {α : Type} {ws : List α} {i : Nat} {x : α} (h : ws[i]? = some x) : ws.take (i + 1) = ws.take i ++ [x] := by
  rw [List.take_add_one, h]; rfl
theorem own_drop1 {α : Type} {ws : List α} {i : Nat} {x : α} (h : ws[i]? = some x) : ws.drop i = x :: ws.drop (i + 1) := by
  obtain ⟨q, rfl⟩ := List.getElem?_eq_some_iff.mp h
  exact List.drop_eq_getElem_cons q
theorem Fld.inj {Z : State} {h : Heap} {a : Addr} {C n d : String} {v v' : Value} (F : Fld Z h a C n d v) (G : Fld Z h a C n d v') : v = v' := by
  obtain ⟨c1, cf1, k1, i1, f1, p1, p2, -, -, -, -, p3⟩ := F
  obtain ⟨c2, cf2, k2, i2, f2, q1, q2, -, -, -, -, q3⟩ := G
  rw [p1] at q1; cases q1
  rw [p2] at q2; cases q2
  rw [p3] at q3; exact Option.some.inj q3
theorem IB.at {Z : State} {K : Kx} {Pl : List Loc → Prop} {vm vm' : Vm} {Ts : List String} (I : IB Z vm Ts) (hW : (KS (Kw K Pl vm)).WarmedH vm') : IB Z vm' Ts := IB.warm I (s := KS K) (by rw [← KS_Kw (Pl := Pl)]; exact hW)
theorem IB.mono {Z : State} {vm : Vm} {Ts Ts' : List String} (I : IB Z vm Ts) (q : ∀ t ∈ Ts, t ∈ Ts') : IB Z vm Ts' := by
  obtain ⟨more, e, hm⟩ := I
  exact ⟨more, e, fun x hx => by obtain ⟨t, h1, h2⟩ := hm x hx; exact ⟨t, q t h1, h2⟩⟩
theorem Lit.at {Z : State} {K : Kx} {Pl : List Loc → Prop} {vm vm' : Vm} {cn : String} {i : Nat} {a : Addr} (L : Lit (Z.setVm vm) cn i a) (hW : (KS (Kw K Pl vm)).WarmedH vm') : Lit (Z.setVm vm') cn i a := Lit.warm L (s := KS K) (by rw [← KS_Kw (Pl := Pl)]; exact hW)
theorem i32_and255 (x : Int32) : ∃ n, n < 256 ∧ x &&& 255 = i32 n := by
  have h : (x &&& 255).toBitVec.toNat ≤ 255 := by
    rw [Int32.toBitVec_and, BitVec.toNat_and]; exact Nat.and_le_right
  refine ⟨(x &&& 255).toBitVec.toNat, by omega, ?_⟩
  apply Int32.toBitVec_inj.mp
  apply BitVec.eq_of_toNat_eq
  show _ = _ % 2 ^ 32
  omega
theorem by8_inj {c d : Nat} (hc : c < 256) (hd : d < 256) : by8 c = by8 d ↔ c = d := by
  constructor
  · intro e
    have h1 := own_byte hc
    rw [e, own_byte hd] at h1
    exact ((i32_eq (by omega) (by omega)).mp h1).symm
  · intro e; rw [e]
/-! UTF-16 Strings -/
def by16 (us : List Nat) : List Int32 := us.flatMap (fun c => [by8 c, by8 (c / 256)])
def US (Z : State) (h : Heap) (a b : Nat) (k : ClassId) (us : List Nat) : Prop := Exa Z h a "java/lang/String" ∧ Fld Z h a "java/lang/String" "coder" "B" (.int 1) ∧ Fld Z h a "java/lang/String" "value" "[B" (.ref b) ∧ AV Z h b k .byte ((by16 us).map Value.int) (.int 0)
theorem US.ext {Z : State} {h h' : Heap} {a b : Nat} {k : ClassId} {us : List Nat} (F : US Z h a b k us) (E : Ext h h') : US Z h' a b k us := ⟨F.1.ext E, F.2.1.ext E, F.2.2.1.ext E, F.2.2.2.ext E⟩
theorem US.keep {Z : State} {h h' : Heap} {a b : Nat} {k : ClassId} {us : List Nat} {ws : List Addr} (F : US Z h a b k us) (Kp : Keep h h' ws) (q1 : a ∉ ws) (q2 : b ∉ ws) : US Z h' a b k us := ⟨F.1.keep Kp, F.2.1.keep Kp q1, F.2.2.1.keep Kp q1, F.2.2.2.keep Kp q2⟩
def GS (Z : State) (h : Heap) (a b : Nat) (k : ClassId) (us : List Nat) : Prop := (St Z h a b k us ∧ ∀ c ∈ us, c < 256) ∨ (US Z h a b k us ∧ ∀ c ∈ us, c < 65536)
theorem GS.ext {Z : State} {h h' : Heap} {a b : Nat} {k : ClassId} {us : List Nat} (F : GS Z h a b k us) (E : Ext h h') : GS Z h' a b k us := F.elim (fun x => Or.inl ⟨x.1.ext E, x.2⟩) (fun x => Or.inr ⟨x.1.ext E, x.2⟩)
theorem GS.keep {Z : State} {h h' : Heap} {a b : Nat} {k : ClassId} {us : List Nat} {ws : List Addr} (F : GS Z h a b k us) (Kp : Keep h h' ws) (q1 : a ∉ ws) (q2 : b ∉ ws) : GS Z h' a b k us := F.elim (fun x => Or.inl ⟨x.1.keep Kp q1 q2, x.2⟩) (fun x => Or.inr ⟨x.1.keep Kp q1 q2, x.2⟩)
theorem GS.exa {Z : State} {h : Heap} {a b : Nat} {k : ClassId} {us : List Nat} (F : GS Z h a b k us) : Exa Z h a "java/lang/String" := F.elim (fun x => x.1.1) (fun x => x.1.1)
theorem GS.lt {Z : State} {h : Heap} {a b : Nat} {k : ClassId} {us : List Nat} (F : GS Z h a b k us) : a < h.size ∧ b < h.size := F.elim (fun x => ⟨exaLt x.1.1, x.1.2.2.2.lt⟩) (fun x => ⟨exaLt x.1.1, x.1.2.2.2.lt⟩)
theorem by16_len (us : List Nat) : ((by16 us).map Value.int).length = 2 * us.length := by
  rw [List.length_map, by16]
  induction us with
  | nil => rfl
  | cons c us ih => rw [List.flatMap_cons, List.length_append, ih]; simp; omega
theorem by16_get : ∀ (us : List Nat) (i c : Nat), us[i]? = some c → (by16 us)[2 * i]? = some (by8 c) ∧ (by16 us)[2 * i + 1]? = some (by8 (c / 256))
  | [], i, c, h => by simp at h
  | u :: us, 0, c, h => by
    simp at h; subst h; exact ⟨rfl, rfl⟩
  | u :: us, i + 1, c, h => by
    have h' : us[i]? = some c := by simpa using h
    have ih := by16_get us i c h'
    have e : by16 (u :: us) = by8 u :: by8 (u / 256) :: by16 us := rfl
    rw [e, show 2 * (i + 1) = 2 * i + 1 + 1 from by omega]
    exact ⟨by simpa using ih.1, by simpa using ih.2⟩
theorem own_uget0 {us : List Nat} {i c : Nat} (h : us[i]? = some c) : ((by16 us).map Value.int)[2 * i]? = some (.int (by8 c)) := by rw [List.getElem?_map, (by16_get us i c h).1]; rfl
theorem own_uget1 {us : List Nat} {i c : Nat} (h : us[i]? = some c) : ((by16 us).map Value.int)[2 * i + 1]? = some (.int (by8 (c / 256))) := by rw [List.getElem?_map, (by16_get us i c h).2]; rfl
theorem by8_mod (c : Nat) : by8 c = by8 (c % 256) := by
  have e : (i32 c).toInt8 = (i32 (c % 256)).toInt8 := by
    show (Int32.ofNat c).toInt8 = (Int32.ofNat (c % 256)).toInt8
    rw [Int32.toInt8_ofNat', Int32.toInt8_ofNat']
    apply Int8.toBitVec_inj.mp
    apply BitVec.eq_of_toNat_eq
    show c % 2 ^ 8 = (c % 256) % 2 ^ 8
    omega
  unfold by8; rw [e]
theorem by8_255F : ∀ c : Fin 256, by8 c &&& 255 = i32 c := by decide +kernel
theorem by8_255 (c : Nat) : by8 c &&& 255 = i32 (c % 256) := by
  rw [by8_mod]; exact by8_255F ⟨c % 256, by omega⟩
theorem own_glue {c : Nat} (h : c < 65536) : (i32 (c % 256) <<< ((0 : Int32) &&& 31)) ||| (i32 (c / 256 % 256) <<< ((8 : Int32) &&& 31)) = i32 c := by
  have e : ∀ a b : Nat, a < 256 → b < 256 → (i32 a <<< ((0 : Int32) &&& 31)) ||| (i32 b <<< ((8 : Int32) &&& 31)) = i32 (a + 256 * b) := by
    intro a b ha hb
    apply Int32.toBitVec_inj.mp
    apply BitVec.eq_of_toNat_eq
    show ((a % 2 ^ 32) <<< 0 % 2 ^ 32) ||| ((b % 2 ^ 32) <<< 8 % 2 ^ 32) = (a + 256 * b) % 2 ^ 32
    have e1 : (a % 2 ^ 32) <<< 0 % 2 ^ 32 = a := by rw [Nat.shiftLeft_eq]; omega
    have e2 : (b % 2 ^ 32) <<< 8 % 2 ^ 32 = b <<< 8 := by rw [Nat.shiftLeft_eq, Nat.shiftLeft_eq]; omega
    rw [e1, e2, Nat.or_comm, ← Nat.shiftLeft_add_eq_or_of_lt (by omega : a < 2 ^ 8), Nat.shiftLeft_eq]; omega
  rw [e _ _ (by omega) (by omega)]; congr 1; omega
theorem own_shl1 {n : Nat} (h : n < 1073741824) : i32 n <<< ((1 : Int32) &&& 31) = i32 (2 * n) := by
  apply Int32.toBitVec_inj.mp
  apply BitVec.eq_of_toNat_eq
  show (n % 2 ^ 32) <<< 1 % 2 ^ 32 = (2 * n) % 2 ^ 32
  rw [Nat.shiftLeft_eq]; omega
theorem own_sshr {n k : Nat} (h : n < 2147483648) : BitVec.sshiftRight (BitVec.ofNat 32 n) k = BitVec.ofNat 32 (n / 2 ^ k) := by
  have hm : (BitVec.ofNat 32 n).msb = false := by
    rw [BitVec.msb_eq_decide]; simp; omega
  rw [BitVec.sshiftRight_eq_of_msb_false hm]
  apply BitVec.eq_of_toNat_eq
  rw [BitVec.toNat_ushiftRight, Nat.shiftRight_eq_div_pow]
  show n % 2 ^ 32 / 2 ^ k = (n / 2 ^ k) % 2 ^ 32
  have hq : n / 2 ^ k ≤ n := Nat.div_le_self _ _
  rw [Nat.mod_eq_of_lt (by omega), Nat.mod_eq_of_lt (by omega)]
theorem own_shr1 {n : Nat} (h : n < 1073741824) : i32 (2 * n) >>> ((1 : Int32) &&& 31) = i32 n := by
  apply Int32.toBitVec_inj.mp
  show BitVec.sshiftRight (BitVec.ofNat 32 (2 * n)) 1 = BitVec.ofNat 32 n
  rw [own_sshr (by omega)]; congr 1; omega
theorem own_shr8 {n : Nat} (h : n < 2147483648) : i32 n >>> ((8 : Int32) &&& 31) = i32 (n / 256) := by
  apply Int32.toBitVec_inj.mp
  show BitVec.sshiftRight (BitVec.ofNat 32 n) 8 = BitVec.ofNat 32 (n / 256)
  rw [own_sshr h]
theorem own_coder1F : ∀ n : Fin 64, 0 < n.val → (XT.ushr (i32 n - i32 (2 * n)) 31).toInt8.toInt32 = 1 := by decide +kernel
theorem own_coder1 {n : Nat} (h : 0 < n) (h2 : n < 64) : (XT.ushr (i32 n - i32 (2 * n)) 31).toInt8.toInt32 = 1 := own_coder1F ⟨n, h2⟩ h
theorem i32_andm (x : Int32) (m : Nat) (hm : m < 2147483648) : ∃ n, n ≤ m ∧ x &&& i32 m = i32 n := by
  have h : (x &&& i32 m).toBitVec.toNat ≤ m := by
    rw [Int32.toBitVec_and, BitVec.toNat_and]
    refine Nat.le_trans Nat.and_le_right ?_
    show m % 2 ^ 32 ≤ m; omega
  refine ⟨(x &&& i32 m).toBitVec.toNat, h, ?_⟩
  apply Int32.toBitVec_inj.mp
  apply BitVec.eq_of_toNat_eq
  show _ = _ % 2 ^ 32
  omega
/-- the empty constant of String's own pool: not yet loaded, or loaded -/
def EE (Z : State) (h : Heap) (vm : Vm) : Prop := IB Z vm [] ∨ (IB Z vm [""] ∧ ∃ (lt lb : Nat) (lk : ClassId), Lit (Z.setVm vm) "java/lang/String" 7 lt ∧ Str Z h lt lb lk [])
theorem EE.keep {Z : State} {h h' : Heap} {vm : Vm} (E : EE Z h vm) (Kp : Keep h h' []) : EE Z h' vm := E.elim Or.inl (fun ⟨i, lt, lb, lk, l, t⟩ => Or.inr ⟨i, lt, lb, lk, l, t.keep Kp nin0 nin0⟩)
theorem EE.warm {Z s : State} {h : Heap} {vm vm' : Vm} (E : EE Z h vm) (hW : (s.setVm vm).WarmedH vm') : EE Z h vm' := E.elim (fun i => Or.inl (IB.warm i hW)) (fun ⟨i, lt, lb, lk, l, t⟩ => Or.inr ⟨IB.warm i hW, lt, lb, lk, Lit.warm l hW, t⟩)
theorem EE.at {Z : State} {K : Kx} {Pl : List Loc → Prop} {h : Heap} {vm vm' : Vm} (E : EE Z h vm) (hW : (KS (Kw K Pl vm)).WarmedH vm') : EE Z h vm' := EE.warm (s := KS K) E (by rw [← KS_Kw (Pl := Pl)]; exact hW)
theorem EE.ib {Z : State} {h : Heap} {vm : Vm} (E : EE Z h vm) : IB Z vm [""] := E.elim (fun i => IB.mono i (by simp)) (fun x => x.1)
def own_SU (Z : State) : Prop := Sta Z Z.heap "java/lang/StringUTF16" "$assertionsDisabled" "Z" (.int 1) ∧ Sta Z Z.heap "java/lang/StringUTF16" "HI_BYTE_SHIFT" "I" (.int 0) ∧ Sta Z Z.heap "java/lang/StringUTF16" "LO_BYTE_SHIFT" "I" (.int 8)
end Jvm.OwnKit
namespace Jvm.Pilot.@@N@@
open Jvm Jvm.ClassFile Sem Op Lib Jvm.Free Jvm.Stand Jvm.LawKit Jvm.RoadKit Jvm.OwnKit Bundle Jvm.Pilot.@@N@@.Jvm.D
theorem w0 {Z : State} {a0 : Array Value} (hw : ∀ d ∈ tables_1, d.before a0 Z = true) : ((Jvm.Cond.constant "com/example/heredity/heredity/CodePointOrderComparePinLaw" (7 : Nat) (65535 : Int32)) : Jvm.Cond).before a0 Z = true := hw _ (List.mem_of_getElem? (i := 0) rfl)
theorem w1 {Z : State} {a0 : Array Value} (hw : ∀ d ∈ tables_1, d.before a0 Z = true) : ((Jvm.Cond.methodLink "com/example/heredity/heredity/CodePointOrderComparePinLaw" (8 : Nat) ({ cls := "com/example/heredity/heredity/CodePointOrderComparePinLaw", name := "str", desc := "(ICC)Ljava/lang/String;" } : Jvm.MethodName)) : Jvm.Cond).before a0 Z = true := hw _ (List.mem_of_getElem? (i := 1) rfl)
theorem w2 {Z : State} {a0 : Array Value} (hw : ∀ d ∈ tables_1, d.before a0 Z = true) : ((Jvm.Cond.static ({ cls := "com/example/heredity/heredity/CodePointOrderComparePinLaw", name := "str", desc := "(ICC)Ljava/lang/String;" } : Jvm.MethodName)) : Jvm.Cond).before a0 Z = true := hw _ (List.mem_of_getElem? (i := 2) rfl)
theorem w3 {Z : State} {a0 : Array Value} (hw : ∀ d ∈ tables_1, d.before a0 Z = true) : ((Jvm.Cond.initialized "com/example/heredity/heredity/CodePointOrderComparePinLaw") : Jvm.Cond).before a0 Z = true := hw _ (List.mem_of_getElem? (i := 3) rfl)
theorem w4 {Z : State} {a0 : Array Value} (hw : ∀ d ∈ tables_1, d.before a0 Z = true) : ((Jvm.Cond.code ({ cls := "com/example/heredity/heredity/CodePointOrderComparePinLaw", name := "str", desc := "(ICC)Ljava/lang/String;" } : Jvm.MethodName) method_3_code (3 : Nat) (Option.some (Jvm.ClassFile.FieldType.object "java/lang/String"))) : Jvm.Cond).before a0 Z = true := hw _ (List.mem_of_getElem? (i := 4) rfl)
theorem w5 {Z : State} {a0 : Array Value} (hw : ∀ d ∈ tables_1, d.before a0 Z = true) : ((Jvm.Cond.classLink "com/example/heredity/heredity/CodePointOrderComparePinLaw" (24 : Nat) "java/lang/String") : Jvm.Cond).before a0 Z = true := hw _ (List.mem_of_getElem? (i := 5) rfl)
theorem w6 {Z : State} {a0 : Array Value} (hw : ∀ d ∈ tables_1, d.before a0 Z = true) : ((Jvm.Cond.instantiable "java/lang/String" (4 : Nat)) : Jvm.Cond).before a0 Z = true := hw _ (List.mem_of_getElem? (i := 6) rfl)
theorem w7 {Z : State} {a0 : Array Value} (hw : ∀ d ∈ tables_1, d.before a0 Z = true) : ((Jvm.Cond.initialized "java/lang/String") : Jvm.Cond).before a0 Z = true := hw _ (List.mem_of_getElem? (i := 7) rfl)
theorem w8 {Z : State} {a0 : Array Value} (hw : ∀ d ∈ tables_1, d.before a0 Z = true) : ((Jvm.Cond.arrayClass Jvm.ClassFile.FieldType.char) : Jvm.Cond).before a0 Z = true := hw _ (List.mem_of_getElem? (i := 8) rfl)
theorem w9 {Z : State} {a0 : Array Value} (hw : ∀ d ∈ tables_1, d.before a0 Z = true) : ((Jvm.Cond.methodLink "com/example/heredity/heredity/CodePointOrderComparePinLaw" (26 : Nat) ({ cls := "java/lang/String", name := "<init>", desc := "([C)V" } : Jvm.MethodName)) : Jvm.Cond).before a0 Z = true := hw _ (List.mem_of_getElem? (i := 9) rfl)
theorem w10 {Z : State} {a0 : Array Value} (hw : ∀ d ∈ tables_1, d.before a0 Z = true) : ((Jvm.Cond.instanceMethod ({ cls := "java/lang/String", name := "<init>", desc := "([C)V" } : Jvm.MethodName)) : Jvm.Cond).before a0 Z = true := hw _ (List.mem_of_getElem? (i := 10) rfl)
theorem w11 {Z : State} {a0 : Array Value} (hw : ∀ d ∈ tables_1, d.before a0 Z = true) : ((Jvm.Cond.code ({ cls := "java/lang/String", name := "<init>", desc := "([C)V" } : Jvm.MethodName) jdk_42_method_3_code (2 : Nat) (Option.none : Option Jvm.ClassFile.FieldType)) : Jvm.Cond).before a0 Z = true := hw _ (List.mem_of_getElem? (i := 11) rfl)
theorem w12 {Z : State} {a0 : Array Value} (hw : ∀ d ∈ tables_1, d.before a0 Z = true) : ((Jvm.Cond.methodLink "java/lang/String" (27 : Nat) ({ cls := "java/lang/String", name := "<init>", desc := "([CIILjava/lang/Void;)V" } : Jvm.MethodName)) : Jvm.Cond).before a0 Z = true := hw _ (List.mem_of_getElem? (i := 12) rfl)
theorem w13 {Z : State} {a0 : Array Value} (hw : ∀ d ∈ tables_1, d.before a0 Z = true) : ((Jvm.Cond.instanceMethod ({ cls := "java/lang/String", name := "<init>", desc := "([CIILjava/lang/Void;)V" } : Jvm.MethodName)) : Jvm.Cond).before a0 Z = true := hw _ (List.mem_of_getElem? (i := 13) rfl)
theorem w15 {Z : State} {a0 : Array Value} (hw : ∀ d ∈ tables_1, d.before a0 Z = true) : ((Jvm.Cond.code ({ cls := "java/lang/String", name := "<init>", desc := "([CIILjava/lang/Void;)V" } : Jvm.MethodName) jdk_42_method_149_code (6 : Nat) (Option.none : Option Jvm.ClassFile.FieldType)) : Jvm.Cond).before a0 Z = true := hw _ (List.mem_of_getElem? (i := 15) rfl)
theorem w16 {Z : State} {a0 : Array Value} (hw : ∀ d ∈ tables_1, d.before a0 Z = true) : ((Jvm.Cond.methodLink "java/lang/String" (1 : Nat) ({ cls := "java/lang/Object", name := "<init>", desc := "()V" } : Jvm.MethodName)) : Jvm.Cond).before a0 Z = true := hw _ (List.mem_of_getElem? (i := 16) rfl)
theorem w17 {Z : State} {a0 : Array Value} (hw : ∀ d ∈ tables_1, d.before a0 Z = true) : ((Jvm.Cond.instanceMethod ({ cls := "java/lang/Object", name := "<init>", desc := "()V" } : Jvm.MethodName)) : Jvm.Cond).before a0 Z = true := hw _ (List.mem_of_getElem? (i := 17) rfl)
theorem w18 {Z : State} {a0 : Array Value} (hw : ∀ d ∈ tables_1, d.before a0 Z = true) : ((Jvm.Cond.code ({ cls := "java/lang/Object", name := "<init>", desc := "()V" } : Jvm.MethodName) object_method_1_code (1 : Nat) (Option.none : Option Jvm.ClassFile.FieldType)) : Jvm.Cond).before a0 Z = true := hw _ (List.mem_of_getElem? (i := 18) rfl)
theorem w19 {Z : State} {a0 : Array Value} (hw : ∀ d ∈ tables_1, d.before a0 Z = true) : ((Jvm.Cond.fieldLink "java/lang/String" (38 : Nat) "java/lang/String" "COMPACT_STRINGS" "Z") : Jvm.Cond).before a0 Z = true := hw _ (List.mem_of_getElem? (i := 19) rfl)
theorem w20 {Z : State} {a0 : Array Value} (hw : ∀ d ∈ tables_1, d.before a0 Z = true) : ((Jvm.Cond.methodLink "java/lang/String" (177 : Nat) ({ cls := "java/lang/StringUTF16", name := "compress", desc := "([CII)[B" } : Jvm.MethodName)) : Jvm.Cond).before a0 Z = true := hw _ (List.mem_of_getElem? (i := 20) rfl)
theorem w21 {Z : State} {a0 : Array Value} (hw : ∀ d ∈ tables_1, d.before a0 Z = true) : ((Jvm.Cond.static ({ cls := "java/lang/StringUTF16", name := "compress", desc := "([CII)[B" } : Jvm.MethodName)) : Jvm.Cond).before a0 Z = true := hw _ (List.mem_of_getElem? (i := 21) rfl)
theorem w22 {Z : State} {a0 : Array Value} (hw : ∀ d ∈ tables_1, d.before a0 Z = true) : ((Jvm.Cond.initialized "java/lang/StringUTF16") : Jvm.Cond).before a0 Z = true := hw _ (List.mem_of_getElem? (i := 22) rfl)
theorem w23 {Z : State} {a0 : Array Value} (hw : ∀ d ∈ tables_1, d.before a0 Z = true) : ((Jvm.Cond.code ({ cls := "java/lang/StringUTF16", name := "compress", desc := "([CII)[B" } : Jvm.MethodName) jdk_52_method_16_code (6 : Nat) (Option.some (Jvm.ClassFile.FieldType.array Jvm.ClassFile.FieldType.byte))) : Jvm.Cond).before a0 Z = true := hw _ (List.mem_of_getElem? (i := 23) rfl)
theorem w24 {Z : State} {a0 : Array Value} (hw : ∀ d ∈ tables_1, d.before a0 Z = true) : ((Jvm.Cond.arrayClass Jvm.ClassFile.FieldType.byte) : Jvm.Cond).before a0 Z = true := hw _ (List.mem_of_getElem? (i := 24) rfl)
theorem w25 {Z : State} {a0 : Array Value} (hw : ∀ d ∈ tables_1, d.before a0 Z = true) : ((Jvm.Cond.methodLink "java/lang/StringUTF16" (115 : Nat) ({ cls := "java/lang/StringUTF16", name := "compress", desc := "([CI[BII)I" } : Jvm.MethodName)) : Jvm.Cond).before a0 Z = true := hw _ (List.mem_of_getElem? (i := 25) rfl)
theorem w26 {Z : State} {a0 : Array Value} (hw : ∀ d ∈ tables_1, d.before a0 Z = true) : ((Jvm.Cond.static ({ cls := "java/lang/StringUTF16", name := "compress", desc := "([CI[BII)I" } : Jvm.MethodName)) : Jvm.Cond).before a0 Z = true := hw _ (List.mem_of_getElem? (i := 26) rfl)
theorem w27 {Z : State} {a0 : Array Value} (hw : ∀ d ∈ tables_1, d.before a0 Z = true) : ((Jvm.Cond.code ({ cls := "java/lang/StringUTF16", name := "compress", desc := "([CI[BII)I" } : Jvm.MethodName) jdk_52_method_21_code (7 : Nat) (Option.some Jvm.ClassFile.FieldType.int)) : Jvm.Cond).before a0 Z = true := hw _ (List.mem_of_getElem? (i := 27) rfl)
theorem w28 {Z : State} {a0 : Array Value} (hw : ∀ d ∈ tables_1, d.before a0 Z = true) : ((Jvm.Cond.methodLink "java/lang/String" (47 : Nat) ({ cls := "java/lang/StringUTF16", name := "coderFromArrayLen", desc := "([BI)B" } : Jvm.MethodName)) : Jvm.Cond).before a0 Z = true := hw _ (List.mem_of_getElem? (i := 28) rfl)
theorem w29 {Z : State} {a0 : Array Value} (hw : ∀ d ∈ tables_1, d.before a0 Z = true) : ((Jvm.Cond.static ({ cls := "java/lang/StringUTF16", name := "coderFromArrayLen", desc := "([BI)B" } : Jvm.MethodName)) : Jvm.Cond).before a0 Z = true := hw _ (List.mem_of_getElem? (i := 29) rfl)
theorem w30 {Z : State} {a0 : Array Value} (hw : ∀ d ∈ tables_1, d.before a0 Z = true) : ((Jvm.Cond.code ({ cls := "java/lang/StringUTF16", name := "coderFromArrayLen", desc := "([BI)B" } : Jvm.MethodName) jdk_52_method_15_code (2 : Nat) (Option.some Jvm.ClassFile.FieldType.byte)) : Jvm.Cond).before a0 Z = true := hw _ (List.mem_of_getElem? (i := 30) rfl)
theorem w31 {Z : State} {a0 : Array Value} (hw : ∀ d ∈ tables_1, d.before a0 Z = true) : ((Jvm.Cond.fieldLink "java/lang/String" (15 : Nat) "java/lang/String" "coder" "B") : Jvm.Cond).before a0 Z = true := hw _ (List.mem_of_getElem? (i := 31) rfl)
theorem w32 {Z : State} {a0 : Array Value} (hw : ∀ d ∈ tables_1, d.before a0 Z = true) : ((Jvm.Cond.laysFinal "java/lang/String" "java/lang/String" "coder" "B") : Jvm.Cond).before a0 Z = true := hw _ (List.mem_of_getElem? (i := 32) rfl)
theorem w33 {Z : State} {a0 : Array Value} (hw : ∀ d ∈ tables_1, d.before a0 Z = true) : ((Jvm.Cond.fieldLink "java/lang/String" (9 : Nat) "java/lang/String" "value" "[B") : Jvm.Cond).before a0 Z = true := hw _ (List.mem_of_getElem? (i := 33) rfl)
theorem w34 {Z : State} {a0 : Array Value} (hw : ∀ d ∈ tables_1, d.before a0 Z = true) : ((Jvm.Cond.laysFinal "java/lang/String" "java/lang/String" "value" "[B") : Jvm.Cond).before a0 Z = true := hw _ (List.mem_of_getElem? (i := 34) rfl)
theorem w35 {Z : State} {a0 : Array Value} (hw : ∀ d ∈ tables_1, d.before a0 Z = true) : ((Jvm.Cond.stringLink "java/lang/String" (7 : Nat) "") : Jvm.Cond).before a0 Z = true := hw _ (List.mem_of_getElem? (i := 35) rfl)
theorem w36 {Z : State} {a0 : Array Value} (hw : ∀ d ∈ tables_1, d.before a0 Z = true) : ((Jvm.Cond.soleField "java/lang/String" "value") : Jvm.Cond).before a0 Z = true := hw _ (List.mem_of_getElem? (i := 36) rfl)
theorem w37 {Z : State} {a0 : Array Value} (hw : ∀ d ∈ tables_1, d.before a0 Z = true) : ((Jvm.Cond.soleField "java/lang/String" "coder") : Jvm.Cond).before a0 Z = true := hw _ (List.mem_of_getElem? (i := 37) rfl)
theorem w38 {Z : State} {a0 : Array Value} (hw : ∀ d ∈ tables_1, d.before a0 Z = true) : ((Jvm.Cond.methodLink "com/example/heredity/heredity/CodePointOrderComparePinLaw" (14 : Nat) ({ cls := "com/example/heredity/heredity/CodePointOrderComparePinLaw", name := "ref", desc := "(ICCICC)I" } : Jvm.MethodName)) : Jvm.Cond).before a0 Z = true := hw _ (List.mem_of_getElem? (i := 38) rfl)
theorem w39 {Z : State} {a0 : Array Value} (hw : ∀ d ∈ tables_1, d.before a0 Z = true) : ((Jvm.Cond.static ({ cls := "com/example/heredity/heredity/CodePointOrderComparePinLaw", name := "ref", desc := "(ICCICC)I" } : Jvm.MethodName)) : Jvm.Cond).before a0 Z = true := hw _ (List.mem_of_getElem? (i := 39) rfl)
theorem w40 {Z : State} {a0 : Array Value} (hw : ∀ d ∈ tables_1, d.before a0 Z = true) : ((Jvm.Cond.code ({ cls := "com/example/heredity/heredity/CodePointOrderComparePinLaw", name := "ref", desc := "(ICCICC)I" } : Jvm.MethodName) method_6_code (7 : Nat) (Option.some Jvm.ClassFile.FieldType.int)) : Jvm.Cond).before a0 Z = true := hw _ (List.mem_of_getElem? (i := 40) rfl)
theorem w41 {Z : State} {a0 : Array Value} (hw : ∀ d ∈ tables_1, d.before a0 Z = true) : ((Jvm.Cond.methodLink "com/example/heredity/heredity/CodePointOrderComparePinLaw" (36 : Nat) ({ cls := "java/lang/Math", name := "min", desc := "(II)I" } : Jvm.MethodName)) : Jvm.Cond).before a0 Z = true := hw _ (List.mem_of_getElem? (i := 41) rfl)
theorem w42 {Z : State} {a0 : Array Value} (hw : ∀ d ∈ tables_1, d.before a0 Z = true) : ((Jvm.Cond.static ({ cls := "java/lang/Math", name := "min", desc := "(II)I" } : Jvm.MethodName)) : Jvm.Cond).before a0 Z = true := hw _ (List.mem_of_getElem? (i := 42) rfl)
theorem w43 {Z : State} {a0 : Array Value} (hw : ∀ d ∈ tables_1, d.before a0 Z = true) : ((Jvm.Cond.initialized "java/lang/Math") : Jvm.Cond).before a0 Z = true := hw _ (List.mem_of_getElem? (i := 43) rfl)
theorem w44 {Z : State} {a0 : Array Value} (hw : ∀ d ∈ tables_1, d.before a0 Z = true) : ((Jvm.Cond.code ({ cls := "java/lang/Math", name := "min", desc := "(II)I" } : Jvm.MethodName) jdk_29_method_69_code (2 : Nat) (Option.some Jvm.ClassFile.FieldType.int)) : Jvm.Cond).before a0 Z = true := hw _ (List.mem_of_getElem? (i := 44) rfl)
theorem w45 {Z : State} {a0 : Array Value} (hw : ∀ d ∈ tables_1, d.before a0 Z = true) : ((Jvm.Cond.methodLink "com/example/heredity/heredity/CodePointOrderComparePinLaw" (18 : Nat) ({ cls := "com/example/heredity/heredity/CodePointOrder", name := "compare", desc := "(Ljava/lang/String;Ljava/lang/String;)I" } : Jvm.MethodName)) : Jvm.Cond).before a0 Z = true := hw _ (List.mem_of_getElem? (i := 45) rfl)
theorem w46 {Z : State} {a0 : Array Value} (hw : ∀ d ∈ tables_1, d.before a0 Z = true) : ((Jvm.Cond.static ({ cls := "com/example/heredity/heredity/CodePointOrder", name := "compare", desc := "(Ljava/lang/String;Ljava/lang/String;)I" } : Jvm.MethodName)) : Jvm.Cond).before a0 Z = true := hw _ (List.mem_of_getElem? (i := 46) rfl)
theorem w47 {Z : State} {a0 : Array Value} (hw : ∀ d ∈ tables_1, d.before a0 Z = true) : ((Jvm.Cond.initialized "com/example/heredity/heredity/CodePointOrder") : Jvm.Cond).before a0 Z = true := hw _ (List.mem_of_getElem? (i := 47) rfl)
theorem w48 {Z : State} {a0 : Array Value} (hw : ∀ d ∈ tables_1, d.before a0 Z = true) : ((Jvm.Cond.code ({ cls := "com/example/heredity/heredity/CodePointOrder", name := "compare", desc := "(Ljava/lang/String;Ljava/lang/String;)I" } : Jvm.MethodName) prog_1_method_2_code (6 : Nat) (Option.some Jvm.ClassFile.FieldType.int)) : Jvm.Cond).before a0 Z = true := hw _ (List.mem_of_getElem? (i := 48) rfl)
theorem w49 {Z : State} {a0 : Array Value} (hw : ∀ d ∈ tables_1, d.before a0 Z = true) : ((Jvm.Cond.methodLink "com/example/heredity/heredity/CodePointOrder" (7 : Nat) ({ cls := "java/lang/String", name := "length", desc := "()I" } : Jvm.MethodName)) : Jvm.Cond).before a0 Z = true := hw _ (List.mem_of_getElem? (i := 49) rfl)
theorem w50 {Z : State} {a0 : Array Value} (hw : ∀ d ∈ tables_1, d.before a0 Z = true) : ((Jvm.Cond.declares ({ cls := "java/lang/String", name := "length", desc := "()I" } : Jvm.MethodName)) : Jvm.Cond).before a0 Z = true := hw _ (List.mem_of_getElem? (i := 50) rfl)
theorem w51 {Z : State} {a0 : Array Value} (hw : ∀ d ∈ tables_1, d.before a0 Z = true) : ((Jvm.Cond.instanceMethod ({ cls := "java/lang/String", name := "length", desc := "()I" } : Jvm.MethodName)) : Jvm.Cond).before a0 Z = true := hw _ (List.mem_of_getElem? (i := 51) rfl)
theorem w52 {Z : State} {a0 : Array Value} (hw : ∀ d ∈ tables_1, d.before a0 Z = true) : ((Jvm.Cond.selects "java/lang/String" ({ cls := "java/lang/String", name := "length", desc := "()I" } : Jvm.MethodName) ({ cls := "java/lang/String", name := "length", desc := "()I" } : Jvm.MethodName)) : Jvm.Cond).before a0 Z = true := hw _ (List.mem_of_getElem? (i := 52) rfl)
theorem w53 {Z : State} {a0 : Array Value} (hw : ∀ d ∈ tables_1, d.before a0 Z = true) : ((Jvm.Cond.code ({ cls := "java/lang/String", name := "length", desc := "()I" } : Jvm.MethodName) jdk_42_method_54_code (1 : Nat) (Option.some Jvm.ClassFile.FieldType.int)) : Jvm.Cond).before a0 Z = true := hw _ (List.mem_of_getElem? (i := 53) rfl)
theorem w54 {Z : State} {a0 : Array Value} (hw : ∀ d ∈ tables_1, d.before a0 Z = true) : ((Jvm.Cond.methodLink "java/lang/String" (335 : Nat) ({ cls := "java/lang/String", name := "coder", desc := "()B" } : Jvm.MethodName)) : Jvm.Cond).before a0 Z = true := hw _ (List.mem_of_getElem? (i := 54) rfl)
theorem w55 {Z : State} {a0 : Array Value} (hw : ∀ d ∈ tables_1, d.before a0 Z = true) : ((Jvm.Cond.declares ({ cls := "java/lang/String", name := "coder", desc := "()B" } : Jvm.MethodName)) : Jvm.Cond).before a0 Z = true := hw _ (List.mem_of_getElem? (i := 55) rfl)
theorem w56 {Z : State} {a0 : Array Value} (hw : ∀ d ∈ tables_1, d.before a0 Z = true) : ((Jvm.Cond.instanceMethod ({ cls := "java/lang/String", name := "coder", desc := "()B" } : Jvm.MethodName)) : Jvm.Cond).before a0 Z = true := hw _ (List.mem_of_getElem? (i := 56) rfl)
theorem w57 {Z : State} {a0 : Array Value} (hw : ∀ d ∈ tables_1, d.before a0 Z = true) : ((Jvm.Cond.selects "java/lang/String" ({ cls := "java/lang/String", name := "coder", desc := "()B" } : Jvm.MethodName) ({ cls := "java/lang/String", name := "coder", desc := "()B" } : Jvm.MethodName)) : Jvm.Cond).before a0 Z = true := hw _ (List.mem_of_getElem? (i := 57) rfl)
theorem w58 {Z : State} {a0 : Array Value} (hw : ∀ d ∈ tables_1, d.before a0 Z = true) : ((Jvm.Cond.code ({ cls := "java/lang/String", name := "coder", desc := "()B" } : Jvm.MethodName) jdk_42_method_152_code (1 : Nat) (Option.some Jvm.ClassFile.FieldType.byte)) : Jvm.Cond).before a0 Z = true := hw _ (List.mem_of_getElem? (i := 58) rfl)
theorem w59 {Z : State} {a0 : Array Value} (hw : ∀ d ∈ tables_1, d.before a0 Z = true) : ((Jvm.Cond.methodLink "com/example/heredity/heredity/CodePointOrder" (13 : Nat) ({ cls := "java/lang/Math", name := "min", desc := "(II)I" } : Jvm.MethodName)) : Jvm.Cond).before a0 Z = true := hw _ (List.mem_of_getElem? (i := 59) rfl)
theorem w60 {Z : State} {a0 : Array Value} (hw : ∀ d ∈ tables_1, d.before a0 Z = true) : ((Jvm.Cond.methodLink "com/example/heredity/heredity/CodePointOrder" (29 : Nat) ({ cls := "java/lang/Integer", name := "compare", desc := "(II)I" } : Jvm.MethodName)) : Jvm.Cond).before a0 Z = true := hw _ (List.mem_of_getElem? (i := 60) rfl)
theorem w61 {Z : State} {a0 : Array Value} (hw : ∀ d ∈ tables_1, d.before a0 Z = true) : ((Jvm.Cond.static ({ cls := "java/lang/Integer", name := "compare", desc := "(II)I" } : Jvm.MethodName)) : Jvm.Cond).before a0 Z = true := hw _ (List.mem_of_getElem? (i := 61) rfl)
theorem w62 {Z : State} {a0 : Array Value} (hw : ∀ d ∈ tables_1, d.before a0 Z = true) : ((Jvm.Cond.initialized "java/lang/Integer") : Jvm.Cond).before a0 Z = true := hw _ (List.mem_of_getElem? (i := 62) rfl)
theorem w63 {Z : State} {a0 : Array Value} (hw : ∀ d ∈ tables_1, d.before a0 Z = true) : ((Jvm.Cond.code ({ cls := "java/lang/Integer", name := "compare", desc := "(II)I" } : Jvm.MethodName) jdk_33_method_40_code (2 : Nat) (Option.some Jvm.ClassFile.FieldType.int)) : Jvm.Cond).before a0 Z = true := hw _ (List.mem_of_getElem? (i := 63) rfl)
theorem w64 {Z : State} {a0 : Array Value} (hw : ∀ d ∈ tables_1, d.before a0 Z = true) : ((Jvm.Cond.methodLink "java/lang/StringUTF16" (119 : Nat) ({ cls := "java/lang/StringUTF16", name := "toBytes", desc := "([CII)[B" } : Jvm.MethodName)) : Jvm.Cond).before a0 Z = true := hw _ (List.mem_of_getElem? (i := 64) rfl)
theorem w65 {Z : State} {a0 : Array Value} (hw : ∀ d ∈ tables_1, d.before a0 Z = true) : ((Jvm.Cond.static ({ cls := "java/lang/StringUTF16", name := "toBytes", desc := "([CII)[B" } : Jvm.MethodName)) : Jvm.Cond).before a0 Z = true := hw _ (List.mem_of_getElem? (i := 65) rfl)
theorem w66 {Z : State} {a0 : Array Value} (hw : ∀ d ∈ tables_1, d.before a0 Z = true) : ((Jvm.Cond.code ({ cls := "java/lang/StringUTF16", name := "toBytes", desc := "([CII)[B" } : Jvm.MethodName) jdk_52_method_14_code (5 : Nat) (Option.some (Jvm.ClassFile.FieldType.array Jvm.ClassFile.FieldType.byte))) : Jvm.Cond).before a0 Z = true := hw _ (List.mem_of_getElem? (i := 66) rfl)
theorem w67 {Z : State} {a0 : Array Value} (hw : ∀ d ∈ tables_1, d.before a0 Z = true) : ((Jvm.Cond.methodLink "java/lang/StringUTF16" (107 : Nat) ({ cls := "java/lang/StringUTF16", name := "newBytesFor", desc := "(I)[B" } : Jvm.MethodName)) : Jvm.Cond).before a0 Z = true := hw _ (List.mem_of_getElem? (i := 67) rfl)
theorem w68 {Z : State} {a0 : Array Value} (hw : ∀ d ∈ tables_1, d.before a0 Z = true) : ((Jvm.Cond.static ({ cls := "java/lang/StringUTF16", name := "newBytesFor", desc := "(I)[B" } : Jvm.MethodName)) : Jvm.Cond).before a0 Z = true := hw _ (List.mem_of_getElem? (i := 68) rfl)
theorem w69 {Z : State} {a0 : Array Value} (hw : ∀ d ∈ tables_1, d.before a0 Z = true) : ((Jvm.Cond.code ({ cls := "java/lang/StringUTF16", name := "newBytesFor", desc := "(I)[B" } : Jvm.MethodName) jdk_52_method_2_code (1 : Nat) (Option.some (Jvm.ClassFile.FieldType.array Jvm.ClassFile.FieldType.byte))) : Jvm.Cond).before a0 Z = true := hw _ (List.mem_of_getElem? (i := 69) rfl)
theorem w70 {Z : State} {a0 : Array Value} (hw : ∀ d ∈ tables_1, d.before a0 Z = true) : ((Jvm.Cond.methodLink "java/lang/StringUTF16" (11 : Nat) ({ cls := "java/lang/StringUTF16", name := "newBytesLength", desc := "(I)I" } : Jvm.MethodName)) : Jvm.Cond).before a0 Z = true := hw _ (List.mem_of_getElem? (i := 70) rfl)
theorem w71 {Z : State} {a0 : Array Value} (hw : ∀ d ∈ tables_1, d.before a0 Z = true) : ((Jvm.Cond.static ({ cls := "java/lang/StringUTF16", name := "newBytesLength", desc := "(I)I" } : Jvm.MethodName)) : Jvm.Cond).before a0 Z = true := hw _ (List.mem_of_getElem? (i := 71) rfl)
theorem w72 {Z : State} {a0 : Array Value} (hw : ∀ d ∈ tables_1, d.before a0 Z = true) : ((Jvm.Cond.code ({ cls := "java/lang/StringUTF16", name := "newBytesLength", desc := "(I)I" } : Jvm.MethodName) jdk_52_method_3_code (1 : Nat) (Option.some Jvm.ClassFile.FieldType.int)) : Jvm.Cond).before a0 Z = true := hw _ (List.mem_of_getElem? (i := 72) rfl)
theorem w73 {Z : State} {a0 : Array Value} (hw : ∀ d ∈ tables_1, d.before a0 Z = true) : ((Jvm.Cond.constant "java/lang/StringUTF16" (20 : Nat) (1073741823 : Int32)) : Jvm.Cond).before a0 Z = true := hw _ (List.mem_of_getElem? (i := 73) rfl)
theorem w74 {Z : State} {a0 : Array Value} (hw : ∀ d ∈ tables_1, d.before a0 Z = true) : ((Jvm.Cond.methodLink "java/lang/StringUTF16" (111 : Nat) ({ cls := "java/lang/StringUTF16", name := "putChar", desc := "([BII)V" } : Jvm.MethodName)) : Jvm.Cond).before a0 Z = true := hw _ (List.mem_of_getElem? (i := 74) rfl)
theorem w75 {Z : State} {a0 : Array Value} (hw : ∀ d ∈ tables_1, d.before a0 Z = true) : ((Jvm.Cond.static ({ cls := "java/lang/StringUTF16", name := "putChar", desc := "([BII)V" } : Jvm.MethodName)) : Jvm.Cond).before a0 Z = true := hw _ (List.mem_of_getElem? (i := 75) rfl)
theorem w76 {Z : State} {a0 : Array Value} (hw : ∀ d ∈ tables_1, d.before a0 Z = true) : ((Jvm.Cond.code ({ cls := "java/lang/StringUTF16", name := "putChar", desc := "([BII)V" } : Jvm.MethodName) jdk_52_method_4_code (3 : Nat) (Option.none : Option Jvm.ClassFile.FieldType)) : Jvm.Cond).before a0 Z = true := hw _ (List.mem_of_getElem? (i := 76) rfl)
theorem w77 {Z : State} {a0 : Array Value} (hw : ∀ d ∈ tables_1, d.before a0 Z = true) : ((Jvm.Cond.fieldLink "java/lang/StringUTF16" (44 : Nat) "java/lang/StringUTF16" "$assertionsDisabled" "Z") : Jvm.Cond).before a0 Z = true := hw _ (List.mem_of_getElem? (i := 77) rfl)
theorem w78 {Z : State} {a0 : Array Value} (hw : ∀ d ∈ tables_1, d.before a0 Z = true) : ((Jvm.Cond.fieldLink "java/lang/StringUTF16" (59 : Nat) "java/lang/StringUTF16" "HI_BYTE_SHIFT" "I") : Jvm.Cond).before a0 Z = true := hw _ (List.mem_of_getElem? (i := 78) rfl)
theorem w79 {Z : State} {a0 : Array Value} (hw : ∀ d ∈ tables_1, d.before a0 Z = true) : ((Jvm.Cond.fieldLink "java/lang/StringUTF16" (63 : Nat) "java/lang/StringUTF16" "LO_BYTE_SHIFT" "I") : Jvm.Cond).before a0 Z = true := hw _ (List.mem_of_getElem? (i := 79) rfl)
theorem w80 {Z : State} {a0 : Array Value} (hw : ∀ d ∈ tables_1, d.before a0 Z = true) : ((Jvm.Cond.methodLink "java/lang/StringUTF16" (71 : Nat) ({ cls := "java/lang/StringUTF16", name := "getChar", desc := "([BI)C" } : Jvm.MethodName)) : Jvm.Cond).before a0 Z = true := hw _ (List.mem_of_getElem? (i := 80) rfl)
theorem w81 {Z : State} {a0 : Array Value} (hw : ∀ d ∈ tables_1, d.before a0 Z = true) : ((Jvm.Cond.static ({ cls := "java/lang/StringUTF16", name := "getChar", desc := "([BI)C" } : Jvm.MethodName)) : Jvm.Cond).before a0 Z = true := hw _ (List.mem_of_getElem? (i := 81) rfl)
theorem w82 {Z : State} {a0 : Array Value} (hw : ∀ d ∈ tables_1, d.before a0 Z = true) : ((Jvm.Cond.code ({ cls := "java/lang/StringUTF16", name := "getChar", desc := "([BI)C" } : Jvm.MethodName) jdk_52_method_5_code (2 : Nat) (Option.some Jvm.ClassFile.FieldType.char)) : Jvm.Cond).before a0 Z = true := hw _ (List.mem_of_getElem? (i := 82) rfl)
theorem w83 {Z : State} {a0 : Array Value} (hw : ∀ d ∈ tables_1, d.before a0 Z = true) : ((Jvm.Cond.methodLink "com/example/heredity/heredity/CodePointOrderComparePinLaw" (42 : Nat) ({ cls := "com/example/heredity/heredity/CodePointOrderComparePinLaw", name := "cmpKeys", desc := "(CC)I" } : Jvm.MethodName)) : Jvm.Cond).before a0 Z = true := hw _ (List.mem_of_getElem? (i := 83) rfl)
theorem w84 {Z : State} {a0 : Array Value} (hw : ∀ d ∈ tables_1, d.before a0 Z = true) : ((Jvm.Cond.static ({ cls := "com/example/heredity/heredity/CodePointOrderComparePinLaw", name := "cmpKeys", desc := "(CC)I" } : Jvm.MethodName)) : Jvm.Cond).before a0 Z = true := hw _ (List.mem_of_getElem? (i := 84) rfl)
theorem w85 {Z : State} {a0 : Array Value} (hw : ∀ d ∈ tables_1, d.before a0 Z = true) : ((Jvm.Cond.code ({ cls := "com/example/heredity/heredity/CodePointOrderComparePinLaw", name := "cmpKeys", desc := "(CC)I" } : Jvm.MethodName) method_5_code (4 : Nat) (Option.some Jvm.ClassFile.FieldType.int)) : Jvm.Cond).before a0 Z = true := hw _ (List.mem_of_getElem? (i := 85) rfl)
theorem w86 {Z : State} {a0 : Array Value} (hw : ∀ d ∈ tables_1, d.before a0 Z = true) : ((Jvm.Cond.methodLink "com/example/heredity/heredity/CodePointOrderComparePinLaw" (32 : Nat) ({ cls := "com/example/heredity/heredity/CodePointOrderComparePinLaw", name := "key", desc := "(C)I" } : Jvm.MethodName)) : Jvm.Cond).before a0 Z = true := hw _ (List.mem_of_getElem? (i := 86) rfl)
theorem w87 {Z : State} {a0 : Array Value} (hw : ∀ d ∈ tables_1, d.before a0 Z = true) : ((Jvm.Cond.static ({ cls := "com/example/heredity/heredity/CodePointOrderComparePinLaw", name := "key", desc := "(C)I" } : Jvm.MethodName)) : Jvm.Cond).before a0 Z = true := hw _ (List.mem_of_getElem? (i := 87) rfl)
theorem w88 {Z : State} {a0 : Array Value} (hw : ∀ d ∈ tables_1, d.before a0 Z = true) : ((Jvm.Cond.code ({ cls := "com/example/heredity/heredity/CodePointOrderComparePinLaw", name := "key", desc := "(C)I" } : Jvm.MethodName) method_4_code (2 : Nat) (Option.some Jvm.ClassFile.FieldType.int)) : Jvm.Cond).before a0 Z = true := hw _ (List.mem_of_getElem? (i := 88) rfl)
theorem w89 {Z : State} {a0 : Array Value} (hw : ∀ d ∈ tables_1, d.before a0 Z = true) : ((Jvm.Cond.constant "com/example/heredity/heredity/CodePointOrderComparePinLaw" (29 : Nat) (55296 : Int32)) : Jvm.Cond).before a0 Z = true := hw _ (List.mem_of_getElem? (i := 89) rfl)
theorem w90 {Z : State} {a0 : Array Value} (hw : ∀ d ∈ tables_1, d.before a0 Z = true) : ((Jvm.Cond.constant "com/example/heredity/heredity/CodePointOrderComparePinLaw" (31 : Nat) (57344 : Int32)) : Jvm.Cond).before a0 Z = true := hw _ (List.mem_of_getElem? (i := 90) rfl)
theorem w91 {Z : State} {a0 : Array Value} (hw : ∀ d ∈ tables_1, d.before a0 Z = true) : ((Jvm.Cond.methodLink "com/example/heredity/heredity/CodePointOrder" (19 : Nat) ({ cls := "java/lang/String", name := "charAt", desc := "(I)C" } : Jvm.MethodName)) : Jvm.Cond).before a0 Z = true := hw _ (List.mem_of_getElem? (i := 91) rfl)
theorem w92 {Z : State} {a0 : Array Value} (hw : ∀ d ∈ tables_1, d.before a0 Z = true) : ((Jvm.Cond.declares ({ cls := "java/lang/String", name := "charAt", desc := "(I)C" } : Jvm.MethodName)) : Jvm.Cond).before a0 Z = true := hw _ (List.mem_of_getElem? (i := 92) rfl)
theorem w93 {Z : State} {a0 : Array Value} (hw : ∀ d ∈ tables_1, d.before a0 Z = true) : ((Jvm.Cond.instanceMethod ({ cls := "java/lang/String", name := "charAt", desc := "(I)C" } : Jvm.MethodName)) : Jvm.Cond).before a0 Z = true := hw _ (List.mem_of_getElem? (i := 93) rfl)
theorem w94 {Z : State} {a0 : Array Value} (hw : ∀ d ∈ tables_1, d.before a0 Z = true) : ((Jvm.Cond.selects "java/lang/String" ({ cls := "java/lang/String", name := "charAt", desc := "(I)C" } : Jvm.MethodName) ({ cls := "java/lang/String", name := "charAt", desc := "(I)C" } : Jvm.MethodName)) : Jvm.Cond).before a0 Z = true := hw _ (List.mem_of_getElem? (i := 94) rfl)
theorem w95 {Z : State} {a0 : Array Value} (hw : ∀ d ∈ tables_1, d.before a0 Z = true) : ((Jvm.Cond.code ({ cls := "java/lang/String", name := "charAt", desc := "(I)C" } : Jvm.MethodName) jdk_42_method_56_code (2 : Nat) (Option.some Jvm.ClassFile.FieldType.char)) : Jvm.Cond).before a0 Z = true := hw _ (List.mem_of_getElem? (i := 95) rfl)
theorem w96 {Z : State} {a0 : Array Value} (hw : ∀ d ∈ tables_1, d.before a0 Z = true) : ((Jvm.Cond.methodLink "java/lang/String" (492 : Nat) ({ cls := "java/lang/String", name := "isLatin1", desc := "()Z" } : Jvm.MethodName)) : Jvm.Cond).before a0 Z = true := hw _ (List.mem_of_getElem? (i := 96) rfl)
theorem w97 {Z : State} {a0 : Array Value} (hw : ∀ d ∈ tables_1, d.before a0 Z = true) : ((Jvm.Cond.declares ({ cls := "java/lang/String", name := "isLatin1", desc := "()Z" } : Jvm.MethodName)) : Jvm.Cond).before a0 Z = true := hw _ (List.mem_of_getElem? (i := 97) rfl)
theorem w98 {Z : State} {a0 : Array Value} (hw : ∀ d ∈ tables_1, d.before a0 Z = true) : ((Jvm.Cond.instanceMethod ({ cls := "java/lang/String", name := "isLatin1", desc := "()Z" } : Jvm.MethodName)) : Jvm.Cond).before a0 Z = true := hw _ (List.mem_of_getElem? (i := 98) rfl)
theorem w99 {Z : State} {a0 : Array Value} (hw : ∀ d ∈ tables_1, d.before a0 Z = true) : ((Jvm.Cond.selects "java/lang/String" ({ cls := "java/lang/String", name := "isLatin1", desc := "()Z" } : Jvm.MethodName) ({ cls := "java/lang/String", name := "isLatin1", desc := "()Z" } : Jvm.MethodName)) : Jvm.Cond).before a0 Z = true := hw _ (List.mem_of_getElem? (i := 99) rfl)
theorem w100 {Z : State} {a0 : Array Value} (hw : ∀ d ∈ tables_1, d.before a0 Z = true) : ((Jvm.Cond.code ({ cls := "java/lang/String", name := "isLatin1", desc := "()Z" } : Jvm.MethodName) jdk_42_method_154_code (1 : Nat) (Option.some Jvm.ClassFile.FieldType.boolean)) : Jvm.Cond).before a0 Z = true := hw _ (List.mem_of_getElem? (i := 100) rfl)
theorem w101 {Z : State} {a0 : Array Value} (hw : ∀ d ∈ tables_1, d.before a0 Z = true) : ((Jvm.Cond.methodLink "java/lang/String" (498 : Nat) ({ cls := "java/lang/StringUTF16", name := "charAt", desc := "([BI)C" } : Jvm.MethodName)) : Jvm.Cond).before a0 Z = true := hw _ (List.mem_of_getElem? (i := 101) rfl)
theorem w102 {Z : State} {a0 : Array Value} (hw : ∀ d ∈ tables_1, d.before a0 Z = true) : ((Jvm.Cond.static ({ cls := "java/lang/StringUTF16", name := "charAt", desc := "([BI)C" } : Jvm.MethodName)) : Jvm.Cond).before a0 Z = true := hw _ (List.mem_of_getElem? (i := 102) rfl)
theorem w103 {Z : State} {a0 : Array Value} (hw : ∀ d ∈ tables_1, d.before a0 Z = true) : ((Jvm.Cond.code ({ cls := "java/lang/StringUTF16", name := "charAt", desc := "([BI)C" } : Jvm.MethodName) jdk_52_method_83_code (2 : Nat) (Option.some Jvm.ClassFile.FieldType.char)) : Jvm.Cond).before a0 Z = true := hw _ (List.mem_of_getElem? (i := 103) rfl)
theorem w104 {Z : State} {a0 : Array Value} (hw : ∀ d ∈ tables_1, d.before a0 Z = true) : ((Jvm.Cond.methodLink "java/lang/StringUTF16" (67 : Nat) ({ cls := "java/lang/StringUTF16", name := "checkIndex", desc := "(I[B)V" } : Jvm.MethodName)) : Jvm.Cond).before a0 Z = true := hw _ (List.mem_of_getElem? (i := 104) rfl)
theorem w105 {Z : State} {a0 : Array Value} (hw : ∀ d ∈ tables_1, d.before a0 Z = true) : ((Jvm.Cond.static ({ cls := "java/lang/StringUTF16", name := "checkIndex", desc := "(I[B)V" } : Jvm.MethodName)) : Jvm.Cond).before a0 Z = true := hw _ (List.mem_of_getElem? (i := 105) rfl)
theorem w106 {Z : State} {a0 : Array Value} (hw : ∀ d ∈ tables_1, d.before a0 Z = true) : ((Jvm.Cond.code ({ cls := "java/lang/StringUTF16", name := "checkIndex", desc := "(I[B)V" } : Jvm.MethodName) jdk_52_method_91_code (2 : Nat) (Option.none : Option Jvm.ClassFile.FieldType)) : Jvm.Cond).before a0 Z = true := hw _ (List.mem_of_getElem? (i := 106) rfl)
theorem w107 {Z : State} {a0 : Array Value} (hw : ∀ d ∈ tables_1, d.before a0 Z = true) : ((Jvm.Cond.methodLink "java/lang/StringUTF16" (48 : Nat) ({ cls := "java/lang/StringUTF16", name := "length", desc := "([B)I" } : Jvm.MethodName)) : Jvm.Cond).before a0 Z = true := hw _ (List.mem_of_getElem? (i := 107) rfl)
theorem w108 {Z : State} {a0 : Array Value} (hw : ∀ d ∈ tables_1, d.before a0 Z = true) : ((Jvm.Cond.static ({ cls := "java/lang/StringUTF16", name := "length", desc := "([B)I" } : Jvm.MethodName)) : Jvm.Cond).before a0 Z = true := hw _ (List.mem_of_getElem? (i := 108) rfl)
theorem w109 {Z : State} {a0 : Array Value} (hw : ∀ d ∈ tables_1, d.before a0 Z = true) : ((Jvm.Cond.code ({ cls := "java/lang/StringUTF16", name := "length", desc := "([B)I" } : Jvm.MethodName) jdk_52_method_6_code (1 : Nat) (Option.some Jvm.ClassFile.FieldType.int)) : Jvm.Cond).before a0 Z = true := hw _ (List.mem_of_getElem? (i := 109) rfl)
theorem w110 {Z : State} {a0 : Array Value} (hw : ∀ d ∈ tables_1, d.before a0 Z = true) : ((Jvm.Cond.methodLink "java/lang/StringUTF16" (414 : Nat) ({ cls := "java/lang/String", name := "checkIndex", desc := "(II)V" } : Jvm.MethodName)) : Jvm.Cond).before a0 Z = true := hw _ (List.mem_of_getElem? (i := 110) rfl)
theorem w111 {Z : State} {a0 : Array Value} (hw : ∀ d ∈ tables_1, d.before a0 Z = true) : ((Jvm.Cond.static ({ cls := "java/lang/String", name := "checkIndex", desc := "(II)V" } : Jvm.MethodName)) : Jvm.Cond).before a0 Z = true := hw _ (List.mem_of_getElem? (i := 111) rfl)
theorem w112 {Z : State} {a0 : Array Value} (hw : ∀ d ∈ tables_1, d.before a0 Z = true) : ((Jvm.Cond.code ({ cls := "java/lang/String", name := "checkIndex", desc := "(II)V" } : Jvm.MethodName) jdk_42_method_155_code (2 : Nat) (Option.none : Option Jvm.ClassFile.FieldType)) : Jvm.Cond).before a0 Z = true := hw _ (List.mem_of_getElem? (i := 112) rfl)
theorem w113 {Z : State} {a0 : Array Value} (hw : ∀ d ∈ tables_1, d.before a0 Z = true) : ((Jvm.Cond.fieldLink "java/lang/String" (1053 : Nat) "jdk/internal/util/Preconditions" "SIOOBE_FORMATTER" "Ljava/util/function/BiFunction;") : Jvm.Cond).before a0 Z = true := hw _ (List.mem_of_getElem? (i := 113) rfl)
theorem w114 {Z : State} {a0 : Array Value} (hw : ∀ d ∈ tables_1, d.before a0 Z = true) : ((Jvm.Cond.initialized "jdk/internal/util/Preconditions") : Jvm.Cond).before a0 Z = true := hw _ (List.mem_of_getElem? (i := 114) rfl)
theorem w115 {Z : State} {a0 : Array Value} (hw : ∀ d ∈ tables_1, d.before a0 Z = true) : ((Jvm.Cond.methodLink "java/lang/String" (1059 : Nat) ({ cls := "jdk/internal/util/Preconditions", name := "checkIndex", desc := "(IILjava/util/function/BiFunction;)I" } : Jvm.MethodName)) : Jvm.Cond).before a0 Z = true := hw _ (List.mem_of_getElem? (i := 115) rfl)
theorem w116 {Z : State} {a0 : Array Value} (hw : ∀ d ∈ tables_1, d.before a0 Z = true) : ((Jvm.Cond.static ({ cls := "jdk/internal/util/Preconditions", name := "checkIndex", desc := "(IILjava/util/function/BiFunction;)I" } : Jvm.MethodName)) : Jvm.Cond).before a0 Z = true := hw _ (List.mem_of_getElem? (i := 116) rfl)
theorem w117 {Z : State} {a0 : Array Value} (hw : ∀ d ∈ tables_1, d.before a0 Z = true) : ((Jvm.Cond.code ({ cls := "jdk/internal/util/Preconditions", name := "checkIndex", desc := "(IILjava/util/function/BiFunction;)I" } : Jvm.MethodName) jdk_41_method_11_code (3 : Nat) (Option.some Jvm.ClassFile.FieldType.int)) : Jvm.Cond).before a0 Z = true := hw _ (List.mem_of_getElem? (i := 117) rfl)
theorem w118 {Z : State} {a0 : Array Value} (hw : ∀ d ∈ tables_1, d.before a0 Z = true) : ((Jvm.Cond.methodLink "com/example/heredity/heredity/CodePointOrder" (23 : Nat) ({ cls := "com/example/heredity/heredity/CodePointOrder", name := "rank", desc := "(C)I" } : Jvm.MethodName)) : Jvm.Cond).before a0 Z = true := hw _ (List.mem_of_getElem? (i := 118) rfl)
theorem w119 {Z : State} {a0 : Array Value} (hw : ∀ d ∈ tables_1, d.before a0 Z = true) : ((Jvm.Cond.static ({ cls := "com/example/heredity/heredity/CodePointOrder", name := "rank", desc := "(C)I" } : Jvm.MethodName)) : Jvm.Cond).before a0 Z = true := hw _ (List.mem_of_getElem? (i := 119) rfl)
theorem w120 {Z : State} {a0 : Array Value} (hw : ∀ d ∈ tables_1, d.before a0 Z = true) : ((Jvm.Cond.code ({ cls := "com/example/heredity/heredity/CodePointOrder", name := "rank", desc := "(C)I" } : Jvm.MethodName) prog_1_method_3_code (1 : Nat) (Option.some Jvm.ClassFile.FieldType.int)) : Jvm.Cond).before a0 Z = true := hw _ (List.mem_of_getElem? (i := 120) rfl)
theorem w121 {Z : State} {a0 : Array Value} (hw : ∀ d ∈ tables_1, d.before a0 Z = true) : ((Jvm.Cond.methodLink "com/example/heredity/heredity/CodePointOrder" (34 : Nat) ({ cls := "java/lang/Character", name := "isSurrogate", desc := "(C)Z" } : Jvm.MethodName)) : Jvm.Cond).before a0 Z = true := hw _ (List.mem_of_getElem? (i := 121) rfl)
theorem w122 {Z : State} {a0 : Array Value} (hw : ∀ d ∈ tables_1, d.before a0 Z = true) : ((Jvm.Cond.static ({ cls := "java/lang/Character", name := "isSurrogate", desc := "(C)Z" } : Jvm.MethodName)) : Jvm.Cond).before a0 Z = true := hw _ (List.mem_of_getElem? (i := 122) rfl)
theorem w123 {Z : State} {a0 : Array Value} (hw : ∀ d ∈ tables_1, d.before a0 Z = true) : ((Jvm.Cond.initialized "java/lang/Character") : Jvm.Cond).before a0 Z = true := hw _ (List.mem_of_getElem? (i := 123) rfl)
theorem w124 {Z : State} {a0 : Array Value} (hw : ∀ d ∈ tables_1, d.before a0 Z = true) : ((Jvm.Cond.code ({ cls := "java/lang/Character", name := "isSurrogate", desc := "(C)Z" } : Jvm.MethodName) jdk_89_method_16_code (1 : Nat) (Option.some Jvm.ClassFile.FieldType.boolean)) : Jvm.Cond).before a0 Z = true := hw _ (List.mem_of_getElem? (i := 124) rfl)
theorem w125 {Z : State} {a0 : Array Value} (hw : ∀ d ∈ tables_1, d.before a0 Z = true) : ((Jvm.Cond.constant "java/lang/Character" (75 : Nat) (55296 : Int32)) : Jvm.Cond).before a0 Z = true := hw _ (List.mem_of_getElem? (i := 125) rfl)
theorem w126 {Z : State} {a0 : Array Value} (hw : ∀ d ∈ tables_1, d.before a0 Z = true) : ((Jvm.Cond.methodLink "java/lang/String" (495 : Nat) ({ cls := "java/lang/StringLatin1", name := "charAt", desc := "([BI)C" } : Jvm.MethodName)) : Jvm.Cond).before a0 Z = true := hw _ (List.mem_of_getElem? (i := 126) rfl)
theorem w127 {Z : State} {a0 : Array Value} (hw : ∀ d ∈ tables_1, d.before a0 Z = true) : ((Jvm.Cond.static ({ cls := "java/lang/StringLatin1", name := "charAt", desc := "([BI)C" } : Jvm.MethodName)) : Jvm.Cond).before a0 Z = true := hw _ (List.mem_of_getElem? (i := 127) rfl)
theorem w128 {Z : State} {a0 : Array Value} (hw : ∀ d ∈ tables_1, d.before a0 Z = true) : ((Jvm.Cond.initialized "java/lang/StringLatin1") : Jvm.Cond).before a0 Z = true := hw _ (List.mem_of_getElem? (i := 128) rfl)
theorem w129 {Z : State} {a0 : Array Value} (hw : ∀ d ∈ tables_1, d.before a0 Z = true) : ((Jvm.Cond.code ({ cls := "java/lang/StringLatin1", name := "charAt", desc := "([BI)C" } : Jvm.MethodName) jdk_43_method_2_code (2 : Nat) (Option.some Jvm.ClassFile.FieldType.char)) : Jvm.Cond).before a0 Z = true := hw _ (List.mem_of_getElem? (i := 129) rfl)
theorem w130 {Z : State} {a0 : Array Value} (hw : ∀ d ∈ tables_1, d.before a0 Z = true) : ((Jvm.Cond.methodLink "java/lang/StringLatin1" (9 : Nat) ({ cls := "java/lang/String", name := "checkIndex", desc := "(II)V" } : Jvm.MethodName)) : Jvm.Cond).before a0 Z = true := hw _ (List.mem_of_getElem? (i := 130) rfl)
theorem w131 {Z : State} {a0 : Array Value} (hw : ∀ d ∈ tables_1, d.before a0 Z = true) : ((Jvm.Cond.constant "com/example/heredity/heredity/CodePointOrderComparePinLaw" (30 : Nat) (57343 : Int32)) : Jvm.Cond).before a0 Z = true := hw _ (List.mem_of_getElem? (i := 131) rfl)
theorem w132 {Z : State} {a0 : Array Value} (hw : ∀ d ∈ tables_1, d.before a0 Z = true) : ((Jvm.Cond.constant "java/lang/Character" (77 : Nat) (57344 : Int32)) : Jvm.Cond).before a0 Z = true := hw _ (List.mem_of_getElem? (i := 132) rfl)
theorem w133 {Z : State} {a0 : Array Value} (hw : ∀ d ∈ tables_1, d.before a0 Z = true) : ((Jvm.Cond.constant "com/example/heredity/heredity/CodePointOrder" (40 : Nat) (65536 : Int32)) : Jvm.Cond).before a0 Z = true := hw _ (List.mem_of_getElem? (i := 133) rfl)
theorem d1_0 : decode method_3_code 0 = .ok (.iload_n 0, 1) := by decide +kernel
theorem d1_1 : decode method_3_code 1 = .ok (.ifCond .ne 14, 3) := by decide +kernel
theorem d1_4 : decode method_3_code 4 = .ok (.new 24, 3) := by decide +kernel
theorem d1_7 : decode method_3_code 7 = .ok (.dup, 1) := by decide +kernel
theorem d1_8 : decode method_3_code 8 = .ok (.iconst 0, 1) := by decide +kernel
theorem d1_9 : decode method_3_code 9 = .ok (.newarray .char, 2) := by decide +kernel
theorem d1_11 : decode method_3_code 11 = .ok (.invokespecial 26, 3) := by decide +kernel
theorem d1_14 : decode method_3_code 14 = .ok (.areturn, 1) := by decide +kernel
theorem d1_15 : decode method_3_code 15 = .ok (.iload_n 0, 1) := by decide +kernel
theorem d1_16 : decode method_3_code 16 = .ok (.iconst 1, 1) := by decide +kernel
theorem d1_17 : decode method_3_code 17 = .ok (.if_icmp .ne 18, 3) := by decide +kernel
theorem d1_20 : decode method_3_code 20 = .ok (.new 24, 3) := by decide +kernel
theorem d1_23 : decode method_3_code 23 = .ok (.dup, 1) := by decide +kernel
theorem d1_24 : decode method_3_code 24 = .ok (.iconst 1, 1) := by decide +kernel
theorem d1_25 : decode method_3_code 25 = .ok (.newarray .char, 2) := by decide +kernel
theorem d1_27 : decode method_3_code 27 = .ok (.dup, 1) := by decide +kernel
theorem d1_28 : decode method_3_code 28 = .ok (.iconst 0, 1) := by decide +kernel
theorem d1_29 : decode method_3_code 29 = .ok (.iload_n 1, 1) := by decide +kernel
theorem d1_30 : decode method_3_code 30 = .ok (.castore, 1) := by decide +kernel
theorem d1_31 : decode method_3_code 31 = .ok (.invokespecial 26, 3) := by decide +kernel
theorem d1_34 : decode method_3_code 34 = .ok (.areturn, 1) := by decide +kernel
theorem d1_35 : decode method_3_code 35 = .ok (.new 24, 3) := by decide +kernel
theorem d1_38 : decode method_3_code 38 = .ok (.dup, 1) := by decide +kernel
theorem d1_39 : decode method_3_code 39 = .ok (.iconst 2, 1) := by decide +kernel
theorem d1_40 : decode method_3_code 40 = .ok (.newarray .char, 2) := by decide +kernel
theorem d1_42 : decode method_3_code 42 = .ok (.dup, 1) := by decide +kernel
theorem d1_43 : decode method_3_code 43 = .ok (.iconst 0, 1) := by decide +kernel
theorem d1_44 : decode method_3_code 44 = .ok (.iload_n 1, 1) := by decide +kernel
theorem d1_45 : decode method_3_code 45 = .ok (.castore, 1) := by decide +kernel
theorem d1_46 : decode method_3_code 46 = .ok (.dup, 1) := by decide +kernel
theorem d1_47 : decode method_3_code 47 = .ok (.iconst 1, 1) := by decide +kernel
theorem d1_48 : decode method_3_code 48 = .ok (.iload_n 2, 1) := by decide +kernel
theorem d1_49 : decode method_3_code 49 = .ok (.castore, 1) := by decide +kernel
theorem d1_50 : decode method_3_code 50 = .ok (.invokespecial 26, 3) := by decide +kernel
theorem d1_53 : decode method_3_code 53 = .ok (.areturn, 1) := by decide +kernel
theorem d2_0 : decode jdk_42_method_3_code 0 = .ok (.aload_n 0, 1) := by decide +kernel
theorem d2_1 : decode jdk_42_method_3_code 1 = .ok (.aload_n 1, 1) := by decide +kernel
theorem d2_2 : decode jdk_42_method_3_code 2 = .ok (.iconst 0, 1) := by decide +kernel
theorem d2_3 : decode jdk_42_method_3_code 3 = .ok (.aload_n 1, 1) := by decide +kernel
theorem d2_4 : decode jdk_42_method_3_code 4 = .ok (.arraylength, 1) := by decide +kernel
theorem d2_5 : decode jdk_42_method_3_code 5 = .ok (.aconst_null, 1) := by decide +kernel
theorem d2_6 : decode jdk_42_method_3_code 6 = .ok (.invokespecial 27, 3) := by decide +kernel
theorem d2_9 : decode jdk_42_method_3_code 9 = .ok (.return_, 1) := by decide +kernel
theorem d3_0 : decode jdk_42_method_149_code 0 = .ok (.aload_n 0, 1) := by decide +kernel
theorem d3_1 : decode jdk_42_method_149_code 1 = .ok (.invokespecial 1, 3) := by decide +kernel
theorem d3_4 : decode jdk_42_method_149_code 4 = .ok (.iload_n 3, 1) := by decide +kernel
theorem d3_5 : decode jdk_42_method_149_code 5 = .ok (.ifCond .ne 22, 3) := by decide +kernel
theorem d3_8 : decode jdk_42_method_149_code 8 = .ok (.aload_n 0, 1) := by decide +kernel
theorem d3_9 : decode jdk_42_method_149_code 9 = .ok (.ldc 7, 2) := by decide +kernel
theorem d3_11 : decode jdk_42_method_149_code 11 = .ok (.getfield 9, 3) := by decide +kernel
theorem d3_14 : decode jdk_42_method_149_code 14 = .ok (.putfield 9, 3) := by decide +kernel
theorem d3_17 : decode jdk_42_method_149_code 17 = .ok (.aload_n 0, 1) := by decide +kernel
theorem d3_18 : decode jdk_42_method_149_code 18 = .ok (.ldc 7, 2) := by decide +kernel
theorem d3_20 : decode jdk_42_method_149_code 20 = .ok (.getfield 15, 3) := by decide +kernel
theorem d3_23 : decode jdk_42_method_149_code 23 = .ok (.putfield 15, 3) := by decide +kernel
theorem d3_26 : decode jdk_42_method_149_code 26 = .ok (.return_, 1) := by decide +kernel
theorem d3_27 : decode jdk_42_method_149_code 27 = .ok (.getstatic 38, 3) := by decide +kernel
theorem d3_30 : decode jdk_42_method_149_code 30 = .ok (.ifCond .eq 28, 3) := by decide +kernel
theorem d3_33 : decode jdk_42_method_149_code 33 = .ok (.aload_n 1, 1) := by decide +kernel
theorem d3_34 : decode jdk_42_method_149_code 34 = .ok (.iload_n 2, 1) := by decide +kernel
theorem d3_35 : decode jdk_42_method_149_code 35 = .ok (.iload_n 3, 1) := by decide +kernel
theorem d3_36 : decode jdk_42_method_149_code 36 = .ok (.invokestatic 177, 3) := by decide +kernel
theorem d3_39 : decode jdk_42_method_149_code 39 = .ok (.astore 5, 2) := by decide +kernel
theorem d3_41 : decode jdk_42_method_149_code 41 = .ok (.aload_n 0, 1) := by decide +kernel
theorem d3_42 : decode jdk_42_method_149_code 42 = .ok (.aload 5, 2) := by decide +kernel
theorem d3_44 : decode jdk_42_method_149_code 44 = .ok (.iload_n 3, 1) := by decide +kernel
theorem d3_45 : decode jdk_42_method_149_code 45 = .ok (.invokestatic 47, 3) := by decide +kernel
theorem d3_48 : decode jdk_42_method_149_code 48 = .ok (.putfield 15, 3) := by decide +kernel
theorem d3_51 : decode jdk_42_method_149_code 51 = .ok (.aload_n 0, 1) := by decide +kernel
theorem d3_52 : decode jdk_42_method_149_code 52 = .ok (.aload 5, 2) := by decide +kernel
theorem d3_54 : decode jdk_42_method_149_code 54 = .ok (.putfield 9, 3) := by decide +kernel
theorem d3_57 : decode jdk_42_method_149_code 57 = .ok (.return_, 1) := by decide +kernel
theorem d5_0 : decode jdk_52_method_16_code 0 = .ok (.iload_n 2, 1) := by decide +kernel
theorem d5_1 : decode jdk_52_method_16_code 1 = .ok (.newarray .byte, 2) := by decide +kernel
theorem d5_3 : decode jdk_52_method_16_code 3 = .ok (.astore_n 3, 1) := by decide +kernel
theorem d5_4 : decode jdk_52_method_16_code 4 = .ok (.aload_n 0, 1) := by decide +kernel
theorem d5_5 : decode jdk_52_method_16_code 5 = .ok (.iload_n 1, 1) := by decide +kernel
theorem d5_6 : decode jdk_52_method_16_code 6 = .ok (.aload_n 3, 1) := by decide +kernel
theorem d5_7 : decode jdk_52_method_16_code 7 = .ok (.iconst 0, 1) := by decide +kernel
theorem d5_8 : decode jdk_52_method_16_code 8 = .ok (.iload_n 2, 1) := by decide +kernel
theorem d5_9 : decode jdk_52_method_16_code 9 = .ok (.invokestatic 115, 3) := by decide +kernel
theorem d5_12 : decode jdk_52_method_16_code 12 = .ok (.istore 4, 2) := by decide +kernel
theorem d5_14 : decode jdk_52_method_16_code 14 = .ok (.iload 4, 2) := by decide +kernel
theorem d5_16 : decode jdk_52_method_16_code 16 = .ok (.iload_n 2, 1) := by decide +kernel
theorem d5_17 : decode jdk_52_method_16_code 17 = .ok (.if_icmp .eq 40, 3) := by decide +kernel
theorem d5_20 : decode jdk_52_method_16_code 20 = .ok (.aload_n 0, 1) := by decide +kernel
theorem d5_21 : decode jdk_52_method_16_code 21 = .ok (.iload_n 1, 1) := by decide +kernel
theorem d5_22 : decode jdk_52_method_16_code 22 = .ok (.iload_n 2, 1) := by decide +kernel
theorem d5_23 : decode jdk_52_method_16_code 23 = .ok (.invokestatic 119, 3) := by decide +kernel
theorem d5_26 : decode jdk_52_method_16_code 26 = .ok (.astore 5, 2) := by decide +kernel
theorem d5_28 : decode jdk_52_method_16_code 28 = .ok (.aload 5, 2) := by decide +kernel
theorem d5_30 : decode jdk_52_method_16_code 30 = .ok (.iload 4, 2) := by decide +kernel
theorem d5_32 : decode jdk_52_method_16_code 32 = .ok (.invokestatic 71, 3) := by decide +kernel
theorem d5_35 : decode jdk_52_method_16_code 35 = .ok (.sipush 255, 3) := by decide +kernel
theorem d5_38 : decode jdk_52_method_16_code 38 = .ok (.if_icmp .gt 16, 3) := by decide +kernel
theorem d5_54 : decode jdk_52_method_16_code 54 = .ok (.aload 5, 2) := by decide +kernel
theorem d5_56 : decode jdk_52_method_16_code 56 = .ok (.areturn, 1) := by decide +kernel
theorem d5_57 : decode jdk_52_method_16_code 57 = .ok (.aload_n 3, 1) := by decide +kernel
theorem d5_58 : decode jdk_52_method_16_code 58 = .ok (.areturn, 1) := by decide +kernel
theorem d6_0 : decode jdk_52_method_21_code 0 = .ok (.iconst 0, 1) := by decide +kernel
theorem d6_1 : decode jdk_52_method_21_code 1 = .ok (.istore 5, 2) := by decide +kernel
theorem d6_3 : decode jdk_52_method_21_code 3 = .ok (.iload 5, 2) := by decide +kernel
theorem d6_5 : decode jdk_52_method_21_code 5 = .ok (.iload 4, 2) := by decide +kernel
theorem d6_7 : decode jdk_52_method_21_code 7 = .ok (.if_icmp .ge 37, 3) := by decide +kernel
theorem d6_10 : decode jdk_52_method_21_code 10 = .ok (.aload_n 0, 1) := by decide +kernel
theorem d6_11 : decode jdk_52_method_21_code 11 = .ok (.iload_n 1, 1) := by decide +kernel
theorem d6_12 : decode jdk_52_method_21_code 12 = .ok (.caload, 1) := by decide +kernel
theorem d6_13 : decode jdk_52_method_21_code 13 = .ok (.istore 6, 2) := by decide +kernel
theorem d6_15 : decode jdk_52_method_21_code 15 = .ok (.iload 6, 2) := by decide +kernel
theorem d6_17 : decode jdk_52_method_21_code 17 = .ok (.sipush 255, 3) := by decide +kernel
theorem d6_20 : decode jdk_52_method_21_code 20 = .ok (.if_icmp .le 6, 3) := by decide +kernel
theorem d6_23 : decode jdk_52_method_21_code 23 = .ok (.iload 5, 2) := by decide +kernel
theorem d6_25 : decode jdk_52_method_21_code 25 = .ok (.ireturn, 1) := by decide +kernel
theorem d6_26 : decode jdk_52_method_21_code 26 = .ok (.aload_n 2, 1) := by decide +kernel
theorem d6_27 : decode jdk_52_method_21_code 27 = .ok (.iload_n 3, 1) := by decide +kernel
theorem d6_28 : decode jdk_52_method_21_code 28 = .ok (.iload 6, 2) := by decide +kernel
theorem d6_30 : decode jdk_52_method_21_code 30 = .ok (.i2b, 1) := by decide +kernel
theorem d6_31 : decode jdk_52_method_21_code 31 = .ok (.bastore, 1) := by decide +kernel
theorem d6_32 : decode jdk_52_method_21_code 32 = .ok (.iinc 1 1, 3) := by decide +kernel
theorem d6_35 : decode jdk_52_method_21_code 35 = .ok (.iinc 3 1, 3) := by decide +kernel
theorem d6_38 : decode jdk_52_method_21_code 38 = .ok (.iinc 5 1, 3) := by decide +kernel
theorem d6_41 : decode jdk_52_method_21_code 41 = .ok (.goto (-38), 3) := by decide +kernel
theorem d6_44 : decode jdk_52_method_21_code 44 = .ok (.iload 4, 2) := by decide +kernel
theorem d6_46 : decode jdk_52_method_21_code 46 = .ok (.ireturn, 1) := by decide +kernel
theorem d7_0 : decode jdk_52_method_15_code 0 = .ok (.iload_n 1, 1) := by decide +kernel
theorem d7_1 : decode jdk_52_method_15_code 1 = .ok (.aload_n 0, 1) := by decide +kernel
theorem d7_2 : decode jdk_52_method_15_code 2 = .ok (.arraylength, 1) := by decide +kernel
theorem d7_3 : decode jdk_52_method_15_code 3 = .ok (.isub, 1) := by decide +kernel
theorem d7_4 : decode jdk_52_method_15_code 4 = .ok (.bipush 31, 2) := by decide +kernel
theorem d7_6 : decode jdk_52_method_15_code 6 = .ok (.iushr, 1) := by decide +kernel
theorem d7_7 : decode jdk_52_method_15_code 7 = .ok (.i2b, 1) := by decide +kernel
theorem d7_8 : decode jdk_52_method_15_code 8 = .ok (.ireturn, 1) := by decide +kernel
theorem d8_0 : decode method_6_code 0 = .ok (.iload_n 0, 1) := by decide +kernel
theorem d8_1 : decode method_6_code 1 = .ok (.iload_n 3, 1) := by decide +kernel
theorem d8_2 : decode method_6_code 2 = .ok (.invokestatic 36, 3) := by decide +kernel
theorem d8_5 : decode method_6_code 5 = .ok (.istore 6, 2) := by decide +kernel
theorem d8_7 : decode method_6_code 7 = .ok (.iload 6, 2) := by decide +kernel
theorem d8_9 : decode method_6_code 9 = .ok (.iconst 1, 1) := by decide +kernel
theorem d8_10 : decode method_6_code 10 = .ok (.if_icmp .lt 16, 3) := by decide +kernel
theorem d8_13 : decode method_6_code 13 = .ok (.iload_n 1, 1) := by decide +kernel
theorem d8_14 : decode method_6_code 14 = .ok (.iload 4, 2) := by decide +kernel
theorem d8_16 : decode method_6_code 16 = .ok (.if_icmp .eq 10, 3) := by decide +kernel
theorem d8_19 : decode method_6_code 19 = .ok (.iload_n 1, 1) := by decide +kernel
theorem d8_20 : decode method_6_code 20 = .ok (.iload 4, 2) := by decide +kernel
theorem d8_22 : decode method_6_code 22 = .ok (.invokestatic 42, 3) := by decide +kernel
theorem d8_25 : decode method_6_code 25 = .ok (.ireturn, 1) := by decide +kernel
theorem d8_26 : decode method_6_code 26 = .ok (.iload 6, 2) := by decide +kernel
theorem d8_28 : decode method_6_code 28 = .ok (.iconst 2, 1) := by decide +kernel
theorem d8_29 : decode method_6_code 29 = .ok (.if_icmp .lt 16, 3) := by decide +kernel
theorem d8_32 : decode method_6_code 32 = .ok (.iload_n 2, 1) := by decide +kernel
theorem d8_33 : decode method_6_code 33 = .ok (.iload 5, 2) := by decide +kernel
theorem d8_35 : decode method_6_code 35 = .ok (.if_icmp .eq 10, 3) := by decide +kernel
theorem d8_38 : decode method_6_code 38 = .ok (.iload_n 2, 1) := by decide +kernel
theorem d8_39 : decode method_6_code 39 = .ok (.iload 5, 2) := by decide +kernel
theorem d8_41 : decode method_6_code 41 = .ok (.invokestatic 42, 3) := by decide +kernel
theorem d8_44 : decode method_6_code 44 = .ok (.ireturn, 1) := by decide +kernel
theorem d8_45 : decode method_6_code 45 = .ok (.iload_n 0, 1) := by decide +kernel
theorem d8_46 : decode method_6_code 46 = .ok (.iload_n 3, 1) := by decide +kernel
theorem d8_47 : decode method_6_code 47 = .ok (.if_icmp .ge 5, 3) := by decide +kernel
theorem d8_50 : decode method_6_code 50 = .ok (.iconst (-1), 1) := by decide +kernel
theorem d8_51 : decode method_6_code 51 = .ok (.ireturn, 1) := by decide +kernel
theorem d8_52 : decode method_6_code 52 = .ok (.iload_n 0, 1) := by decide +kernel
theorem d8_53 : decode method_6_code 53 = .ok (.iload_n 3, 1) := by decide +kernel
theorem d8_54 : decode method_6_code 54 = .ok (.if_icmp .le 5, 3) := by decide +kernel
theorem d8_57 : decode method_6_code 57 = .ok (.iconst 1, 1) := by decide +kernel
theorem d8_58 : decode method_6_code 58 = .ok (.ireturn, 1) := by decide +kernel
theorem d8_59 : decode method_6_code 59 = .ok (.iconst 0, 1) := by decide +kernel
theorem d8_60 : decode method_6_code 60 = .ok (.ireturn, 1) := by decide +kernel
theorem d9_0 : decode jdk_29_method_69_code 0 = .ok (.iload_n 0, 1) := by decide +kernel
theorem d9_1 : decode jdk_29_method_69_code 1 = .ok (.iload_n 1, 1) := by decide +kernel
theorem d9_2 : decode jdk_29_method_69_code 2 = .ok (.if_icmp .gt 7, 3) := by decide +kernel
theorem d9_5 : decode jdk_29_method_69_code 5 = .ok (.iload_n 0, 1) := by decide +kernel
theorem d9_6 : decode jdk_29_method_69_code 6 = .ok (.goto 4, 3) := by decide +kernel
theorem d9_9 : decode jdk_29_method_69_code 9 = .ok (.iload_n 1, 1) := by decide +kernel
theorem d9_10 : decode jdk_29_method_69_code 10 = .ok (.ireturn, 1) := by decide +kernel
theorem d10_0 : decode prog_1_method_2_code 0 = .ok (.aload_n 0, 1) := by decide +kernel
theorem d10_1 : decode prog_1_method_2_code 1 = .ok (.invokevirtual 7, 3) := by decide +kernel
theorem d10_4 : decode prog_1_method_2_code 4 = .ok (.aload_n 1, 1) := by decide +kernel
theorem d10_5 : decode prog_1_method_2_code 5 = .ok (.invokevirtual 7, 3) := by decide +kernel
theorem d10_8 : decode prog_1_method_2_code 8 = .ok (.invokestatic 13, 3) := by decide +kernel
theorem d10_11 : decode prog_1_method_2_code 11 = .ok (.istore_n 2, 1) := by decide +kernel
theorem d10_12 : decode prog_1_method_2_code 12 = .ok (.iconst 0, 1) := by decide +kernel
theorem d10_13 : decode prog_1_method_2_code 13 = .ok (.istore_n 3, 1) := by decide +kernel
theorem d10_14 : decode prog_1_method_2_code 14 = .ok (.iload_n 3, 1) := by decide +kernel
theorem d10_15 : decode prog_1_method_2_code 15 = .ok (.iload_n 2, 1) := by decide +kernel
theorem d10_16 : decode prog_1_method_2_code 16 = .ok (.if_icmp .ge 44, 3) := by decide +kernel
theorem d10_19 : decode prog_1_method_2_code 19 = .ok (.aload_n 0, 1) := by decide +kernel
theorem d10_20 : decode prog_1_method_2_code 20 = .ok (.iload_n 3, 1) := by decide +kernel
theorem d10_21 : decode prog_1_method_2_code 21 = .ok (.invokevirtual 19, 3) := by decide +kernel
theorem d10_24 : decode prog_1_method_2_code 24 = .ok (.istore 4, 2) := by decide +kernel
theorem d10_26 : decode prog_1_method_2_code 26 = .ok (.aload_n 1, 1) := by decide +kernel
theorem d10_27 : decode prog_1_method_2_code 27 = .ok (.iload_n 3, 1) := by decide +kernel
theorem d10_28 : decode prog_1_method_2_code 28 = .ok (.invokevirtual 19, 3) := by decide +kernel
theorem d10_31 : decode prog_1_method_2_code 31 = .ok (.istore 5, 2) := by decide +kernel
theorem d10_33 : decode prog_1_method_2_code 33 = .ok (.iload 4, 2) := by decide +kernel
theorem d10_35 : decode prog_1_method_2_code 35 = .ok (.iload 5, 2) := by decide +kernel
theorem d10_37 : decode prog_1_method_2_code 37 = .ok (.if_icmp .eq 17, 3) := by decide +kernel
theorem d10_40 : decode prog_1_method_2_code 40 = .ok (.iload 4, 2) := by decide +kernel
theorem d10_42 : decode prog_1_method_2_code 42 = .ok (.invokestatic 23, 3) := by decide +kernel
theorem d10_45 : decode prog_1_method_2_code 45 = .ok (.iload 5, 2) := by decide +kernel
theorem d10_47 : decode prog_1_method_2_code 47 = .ok (.invokestatic 23, 3) := by decide +kernel
theorem d10_50 : decode prog_1_method_2_code 50 = .ok (.invokestatic 29, 3) := by decide +kernel
theorem d10_53 : decode prog_1_method_2_code 53 = .ok (.ireturn, 1) := by decide +kernel
theorem d10_54 : decode prog_1_method_2_code 54 = .ok (.iinc 3 1, 3) := by decide +kernel
theorem d10_57 : decode prog_1_method_2_code 57 = .ok (.goto (-43), 3) := by decide +kernel
theorem d10_60 : decode prog_1_method_2_code 60 = .ok (.aload_n 0, 1) := by decide +kernel
theorem d10_61 : decode prog_1_method_2_code 61 = .ok (.invokevirtual 7, 3) := by decide +kernel
theorem d10_64 : decode prog_1_method_2_code 64 = .ok (.aload_n 1, 1) := by decide +kernel
theorem d10_65 : decode prog_1_method_2_code 65 = .ok (.invokevirtual 7, 3) := by decide +kernel
theorem d10_68 : decode prog_1_method_2_code 68 = .ok (.invokestatic 29, 3) := by decide +kernel
theorem d10_71 : decode prog_1_method_2_code 71 = .ok (.ireturn, 1) := by decide +kernel
theorem d11_0 : decode jdk_42_method_54_code 0 = .ok (.aload_n 0, 1) := by decide +kernel
theorem d11_1 : decode jdk_42_method_54_code 1 = .ok (.getfield 9, 3) := by decide +kernel
theorem d11_4 : decode jdk_42_method_54_code 4 = .ok (.arraylength, 1) := by decide +kernel
theorem d11_5 : decode jdk_42_method_54_code 5 = .ok (.aload_n 0, 1) := by decide +kernel
theorem d11_6 : decode jdk_42_method_54_code 6 = .ok (.invokevirtual 335, 3) := by decide +kernel
theorem d11_9 : decode jdk_42_method_54_code 9 = .ok (.ishr, 1) := by decide +kernel
theorem d11_10 : decode jdk_42_method_54_code 10 = .ok (.ireturn, 1) := by decide +kernel
theorem d12_0 : decode jdk_42_method_152_code 0 = .ok (.getstatic 38, 3) := by decide +kernel
theorem d12_3 : decode jdk_42_method_152_code 3 = .ok (.ifCond .eq 10, 3) := by decide +kernel
theorem d12_6 : decode jdk_42_method_152_code 6 = .ok (.aload_n 0, 1) := by decide +kernel
theorem d12_7 : decode jdk_42_method_152_code 7 = .ok (.getfield 15, 3) := by decide +kernel
theorem d12_10 : decode jdk_42_method_152_code 10 = .ok (.goto 4, 3) := by decide +kernel
theorem d12_14 : decode jdk_42_method_152_code 14 = .ok (.ireturn, 1) := by decide +kernel
theorem d13_0 : decode jdk_33_method_40_code 0 = .ok (.iload_n 0, 1) := by decide +kernel
theorem d13_1 : decode jdk_33_method_40_code 1 = .ok (.iload_n 1, 1) := by decide +kernel
theorem d13_2 : decode jdk_33_method_40_code 2 = .ok (.if_icmp .ge 7, 3) := by decide +kernel
theorem d13_5 : decode jdk_33_method_40_code 5 = .ok (.iconst (-1), 1) := by decide +kernel
theorem d13_6 : decode jdk_33_method_40_code 6 = .ok (.goto 13, 3) := by decide +kernel
theorem d13_9 : decode jdk_33_method_40_code 9 = .ok (.iload_n 0, 1) := by decide +kernel
theorem d13_10 : decode jdk_33_method_40_code 10 = .ok (.iload_n 1, 1) := by decide +kernel
theorem d13_11 : decode jdk_33_method_40_code 11 = .ok (.if_icmp .ne 7, 3) := by decide +kernel
theorem d13_14 : decode jdk_33_method_40_code 14 = .ok (.iconst 0, 1) := by decide +kernel
theorem d13_15 : decode jdk_33_method_40_code 15 = .ok (.goto 4, 3) := by decide +kernel
theorem d13_18 : decode jdk_33_method_40_code 18 = .ok (.iconst 1, 1) := by decide +kernel
theorem d13_19 : decode jdk_33_method_40_code 19 = .ok (.ireturn, 1) := by decide +kernel
theorem d14_0 : decode jdk_52_method_14_code 0 = .ok (.iload_n 2, 1) := by decide +kernel
theorem d14_1 : decode jdk_52_method_14_code 1 = .ok (.invokestatic 107, 3) := by decide +kernel
theorem d14_4 : decode jdk_52_method_14_code 4 = .ok (.astore_n 3, 1) := by decide +kernel
theorem d14_5 : decode jdk_52_method_14_code 5 = .ok (.iconst 0, 1) := by decide +kernel
theorem d14_6 : decode jdk_52_method_14_code 6 = .ok (.istore 4, 2) := by decide +kernel
theorem d14_8 : decode jdk_52_method_14_code 8 = .ok (.iload 4, 2) := by decide +kernel
theorem d14_10 : decode jdk_52_method_14_code 10 = .ok (.iload_n 2, 1) := by decide +kernel
theorem d14_11 : decode jdk_52_method_14_code 11 = .ok (.if_icmp .ge 21, 3) := by decide +kernel
theorem d14_14 : decode jdk_52_method_14_code 14 = .ok (.aload_n 3, 1) := by decide +kernel
theorem d14_15 : decode jdk_52_method_14_code 15 = .ok (.iload 4, 2) := by decide +kernel
theorem d14_17 : decode jdk_52_method_14_code 17 = .ok (.aload_n 0, 1) := by decide +kernel
theorem d14_18 : decode jdk_52_method_14_code 18 = .ok (.iload_n 1, 1) := by decide +kernel
theorem d14_19 : decode jdk_52_method_14_code 19 = .ok (.caload, 1) := by decide +kernel
theorem d14_20 : decode jdk_52_method_14_code 20 = .ok (.invokestatic 111, 3) := by decide +kernel
theorem d14_23 : decode jdk_52_method_14_code 23 = .ok (.iinc 1 1, 3) := by decide +kernel
theorem d14_26 : decode jdk_52_method_14_code 26 = .ok (.iinc 4 1, 3) := by decide +kernel
theorem d14_29 : decode jdk_52_method_14_code 29 = .ok (.goto (-21), 3) := by decide +kernel
theorem d14_32 : decode jdk_52_method_14_code 32 = .ok (.aload_n 3, 1) := by decide +kernel
theorem d14_33 : decode jdk_52_method_14_code 33 = .ok (.areturn, 1) := by decide +kernel
theorem d15_0 : decode jdk_52_method_2_code 0 = .ok (.iload_n 0, 1) := by decide +kernel
theorem d15_1 : decode jdk_52_method_2_code 1 = .ok (.invokestatic 11, 3) := by decide +kernel
theorem d15_4 : decode jdk_52_method_2_code 4 = .ok (.newarray .byte, 2) := by decide +kernel
theorem d15_6 : decode jdk_52_method_2_code 6 = .ok (.areturn, 1) := by decide +kernel
theorem d16_0 : decode jdk_52_method_3_code 0 = .ok (.iload_n 0, 1) := by decide +kernel
theorem d16_1 : decode jdk_52_method_3_code 1 = .ok (.ifCond .ge 11, 3) := by decide +kernel
theorem d16_12 : decode jdk_52_method_3_code 12 = .ok (.iload_n 0, 1) := by decide +kernel
theorem d16_13 : decode jdk_52_method_3_code 13 = .ok (.ldc 20, 2) := by decide +kernel
theorem d16_15 : decode jdk_52_method_3_code 15 = .ok (.if_icmp .lt 40, 3) := by decide +kernel
theorem d16_55 : decode jdk_52_method_3_code 55 = .ok (.iload_n 0, 1) := by decide +kernel
theorem d16_56 : decode jdk_52_method_3_code 56 = .ok (.iconst 1, 1) := by decide +kernel
theorem d16_57 : decode jdk_52_method_3_code 57 = .ok (.ishl, 1) := by decide +kernel
theorem d16_58 : decode jdk_52_method_3_code 58 = .ok (.ireturn, 1) := by decide +kernel
theorem d17_0 : decode jdk_52_method_4_code 0 = .ok (.getstatic 44, 3) := by decide +kernel
theorem d17_3 : decode jdk_52_method_4_code 3 = .ok (.ifCond .ne 25, 3) := by decide +kernel
theorem d17_28 : decode jdk_52_method_4_code 28 = .ok (.iload_n 1, 1) := by decide +kernel
theorem d17_29 : decode jdk_52_method_4_code 29 = .ok (.iconst 1, 1) := by decide +kernel
theorem d17_30 : decode jdk_52_method_4_code 30 = .ok (.ishl, 1) := by decide +kernel
theorem d17_31 : decode jdk_52_method_4_code 31 = .ok (.istore_n 1, 1) := by decide +kernel
theorem d17_32 : decode jdk_52_method_4_code 32 = .ok (.aload_n 0, 1) := by decide +kernel
theorem d17_33 : decode jdk_52_method_4_code 33 = .ok (.iload_n 1, 1) := by decide +kernel
theorem d17_34 : decode jdk_52_method_4_code 34 = .ok (.iinc 1 1, 3) := by decide +kernel
theorem d17_37 : decode jdk_52_method_4_code 37 = .ok (.iload_n 2, 1) := by decide +kernel
theorem d17_38 : decode jdk_52_method_4_code 38 = .ok (.getstatic 59, 3) := by decide +kernel
theorem d17_41 : decode jdk_52_method_4_code 41 = .ok (.ishr, 1) := by decide +kernel
theorem d17_42 : decode jdk_52_method_4_code 42 = .ok (.i2b, 1) := by decide +kernel
theorem d17_43 : decode jdk_52_method_4_code 43 = .ok (.bastore, 1) := by decide +kernel
theorem d17_44 : decode jdk_52_method_4_code 44 = .ok (.aload_n 0, 1) := by decide +kernel
theorem d17_45 : decode jdk_52_method_4_code 45 = .ok (.iload_n 1, 1) := by decide +kernel
theorem d17_46 : decode jdk_52_method_4_code 46 = .ok (.iload_n 2, 1) := by decide +kernel
theorem d17_47 : decode jdk_52_method_4_code 47 = .ok (.getstatic 63, 3) := by decide +kernel
theorem d17_50 : decode jdk_52_method_4_code 50 = .ok (.ishr, 1) := by decide +kernel
theorem d17_51 : decode jdk_52_method_4_code 51 = .ok (.i2b, 1) := by decide +kernel
theorem d17_52 : decode jdk_52_method_4_code 52 = .ok (.bastore, 1) := by decide +kernel
theorem d17_53 : decode jdk_52_method_4_code 53 = .ok (.return_, 1) := by decide +kernel
theorem d18_0 : decode jdk_52_method_5_code 0 = .ok (.getstatic 44, 3) := by decide +kernel
theorem d18_3 : decode jdk_52_method_5_code 3 = .ok (.ifCond .ne 25, 3) := by decide +kernel
theorem d18_28 : decode jdk_52_method_5_code 28 = .ok (.iload_n 1, 1) := by decide +kernel
theorem d18_29 : decode jdk_52_method_5_code 29 = .ok (.iconst 1, 1) := by decide +kernel
theorem d18_30 : decode jdk_52_method_5_code 30 = .ok (.ishl, 1) := by decide +kernel
theorem d18_31 : decode jdk_52_method_5_code 31 = .ok (.istore_n 1, 1) := by decide +kernel
theorem d18_32 : decode jdk_52_method_5_code 32 = .ok (.aload_n 0, 1) := by decide +kernel
theorem d18_33 : decode jdk_52_method_5_code 33 = .ok (.iload_n 1, 1) := by decide +kernel
theorem d18_34 : decode jdk_52_method_5_code 34 = .ok (.iinc 1 1, 3) := by decide +kernel
theorem d18_37 : decode jdk_52_method_5_code 37 = .ok (.baload, 1) := by decide +kernel
theorem d18_38 : decode jdk_52_method_5_code 38 = .ok (.sipush 255, 3) := by decide +kernel
theorem d18_41 : decode jdk_52_method_5_code 41 = .ok (.iand, 1) := by decide +kernel
theorem d18_42 : decode jdk_52_method_5_code 42 = .ok (.getstatic 59, 3) := by decide +kernel
theorem d18_45 : decode jdk_52_method_5_code 45 = .ok (.ishl, 1) := by decide +kernel
theorem d18_46 : decode jdk_52_method_5_code 46 = .ok (.aload_n 0, 1) := by decide +kernel
theorem d18_47 : decode jdk_52_method_5_code 47 = .ok (.iload_n 1, 1) := by decide +kernel
theorem d18_48 : decode jdk_52_method_5_code 48 = .ok (.baload, 1) := by decide +kernel
theorem d18_49 : decode jdk_52_method_5_code 49 = .ok (.sipush 255, 3) := by decide +kernel
theorem d18_52 : decode jdk_52_method_5_code 52 = .ok (.iand, 1) := by decide +kernel
theorem d18_53 : decode jdk_52_method_5_code 53 = .ok (.getstatic 63, 3) := by decide +kernel
theorem d18_56 : decode jdk_52_method_5_code 56 = .ok (.ishl, 1) := by decide +kernel
theorem d18_57 : decode jdk_52_method_5_code 57 = .ok (.ior, 1) := by decide +kernel
theorem d18_58 : decode jdk_52_method_5_code 58 = .ok (.i2c, 1) := by decide +kernel
theorem d18_59 : decode jdk_52_method_5_code 59 = .ok (.ireturn, 1) := by decide +kernel
theorem d19_0 : decode method_5_code 0 = .ok (.iload_n 0, 1) := by decide +kernel
theorem d19_1 : decode method_5_code 1 = .ok (.invokestatic 32, 3) := by decide +kernel
theorem d19_4 : decode method_5_code 4 = .ok (.istore_n 2, 1) := by decide +kernel
theorem d19_5 : decode method_5_code 5 = .ok (.iload_n 1, 1) := by decide +kernel
theorem d19_6 : decode method_5_code 6 = .ok (.invokestatic 32, 3) := by decide +kernel
theorem d19_9 : decode method_5_code 9 = .ok (.istore_n 3, 1) := by decide +kernel
theorem d19_10 : decode method_5_code 10 = .ok (.iload_n 2, 1) := by decide +kernel
theorem d19_11 : decode method_5_code 11 = .ok (.iload_n 3, 1) := by decide +kernel
theorem d19_12 : decode method_5_code 12 = .ok (.if_icmp .ge 5, 3) := by decide +kernel
theorem d19_15 : decode method_5_code 15 = .ok (.iconst (-1), 1) := by decide +kernel
theorem d19_16 : decode method_5_code 16 = .ok (.ireturn, 1) := by decide +kernel
theorem d19_17 : decode method_5_code 17 = .ok (.iload_n 2, 1) := by decide +kernel
theorem d19_18 : decode method_5_code 18 = .ok (.iload_n 3, 1) := by decide +kernel
theorem d19_19 : decode method_5_code 19 = .ok (.if_icmp .le 5, 3) := by decide +kernel
theorem d19_22 : decode method_5_code 22 = .ok (.iconst 1, 1) := by decide +kernel
theorem d19_23 : decode method_5_code 23 = .ok (.ireturn, 1) := by decide +kernel
theorem d19_24 : decode method_5_code 24 = .ok (.iconst 0, 1) := by decide +kernel
theorem d19_25 : decode method_5_code 25 = .ok (.ireturn, 1) := by decide +kernel
theorem d20_0 : decode method_4_code 0 = .ok (.iload_n 0, 1) := by decide +kernel
theorem d20_1 : decode method_4_code 1 = .ok (.istore_n 1, 1) := by decide +kernel
theorem d20_2 : decode method_4_code 2 = .ok (.iload_n 1, 1) := by decide +kernel
theorem d20_3 : decode method_4_code 3 = .ok (.ldc 29, 2) := by decide +kernel
theorem d20_5 : decode method_4_code 5 = .ok (.if_icmp .lt 15, 3) := by decide +kernel
theorem d20_8 : decode method_4_code 8 = .ok (.iload_n 1, 1) := by decide +kernel
theorem d20_9 : decode method_4_code 9 = .ok (.ldc 30, 2) := by decide +kernel
theorem d20_11 : decode method_4_code 11 = .ok (.if_icmp .gt 9, 3) := by decide +kernel
theorem d20_14 : decode method_4_code 14 = .ok (.iload_n 1, 1) := by decide +kernel
theorem d20_15 : decode method_4_code 15 = .ok (.sipush 8192, 3) := by decide +kernel
theorem d20_18 : decode method_4_code 18 = .ok (.iadd, 1) := by decide +kernel
theorem d20_19 : decode method_4_code 19 = .ok (.ireturn, 1) := by decide +kernel
theorem d20_20 : decode method_4_code 20 = .ok (.iload_n 1, 1) := by decide +kernel
theorem d20_21 : decode method_4_code 21 = .ok (.ldc 31, 2) := by decide +kernel
theorem d20_23 : decode method_4_code 23 = .ok (.if_icmp .lt 9, 3) := by decide +kernel
theorem d20_26 : decode method_4_code 26 = .ok (.iload_n 1, 1) := by decide +kernel
theorem d20_27 : decode method_4_code 27 = .ok (.sipush 2048, 3) := by decide +kernel
theorem d20_30 : decode method_4_code 30 = .ok (.isub, 1) := by decide +kernel
theorem d20_31 : decode method_4_code 31 = .ok (.ireturn, 1) := by decide +kernel
theorem d20_32 : decode method_4_code 32 = .ok (.iload_n 1, 1) := by decide +kernel
theorem d20_33 : decode method_4_code 33 = .ok (.ireturn, 1) := by decide +kernel
theorem d21_0 : decode jdk_42_method_56_code 0 = .ok (.aload_n 0, 1) := by decide +kernel
theorem d21_1 : decode jdk_42_method_56_code 1 = .ok (.invokevirtual 492, 3) := by decide +kernel
theorem d21_4 : decode jdk_42_method_56_code 4 = .ok (.ifCond .eq 12, 3) := by decide +kernel
theorem d21_7 : decode jdk_42_method_56_code 7 = .ok (.aload_n 0, 1) := by decide +kernel
theorem d21_8 : decode jdk_42_method_56_code 8 = .ok (.getfield 9, 3) := by decide +kernel
theorem d21_11 : decode jdk_42_method_56_code 11 = .ok (.iload_n 1, 1) := by decide +kernel
theorem d21_12 : decode jdk_42_method_56_code 12 = .ok (.invokestatic 495, 3) := by decide +kernel
theorem d21_15 : decode jdk_42_method_56_code 15 = .ok (.ireturn, 1) := by decide +kernel
theorem d21_16 : decode jdk_42_method_56_code 16 = .ok (.aload_n 0, 1) := by decide +kernel
theorem d21_17 : decode jdk_42_method_56_code 17 = .ok (.getfield 9, 3) := by decide +kernel
theorem d21_20 : decode jdk_42_method_56_code 20 = .ok (.iload_n 1, 1) := by decide +kernel
theorem d21_21 : decode jdk_42_method_56_code 21 = .ok (.invokestatic 498, 3) := by decide +kernel
theorem d21_24 : decode jdk_42_method_56_code 24 = .ok (.ireturn, 1) := by decide +kernel
theorem d22_0 : decode jdk_42_method_154_code 0 = .ok (.getstatic 38, 3) := by decide +kernel
theorem d22_3 : decode jdk_42_method_154_code 3 = .ok (.ifCond .eq 14, 3) := by decide +kernel
theorem d22_6 : decode jdk_42_method_154_code 6 = .ok (.aload_n 0, 1) := by decide +kernel
theorem d22_7 : decode jdk_42_method_154_code 7 = .ok (.getfield 15, 3) := by decide +kernel
theorem d22_10 : decode jdk_42_method_154_code 10 = .ok (.ifCond .ne 7, 3) := by decide +kernel
theorem d22_13 : decode jdk_42_method_154_code 13 = .ok (.iconst 1, 1) := by decide +kernel
theorem d22_14 : decode jdk_42_method_154_code 14 = .ok (.goto 4, 3) := by decide +kernel
theorem d22_17 : decode jdk_42_method_154_code 17 = .ok (.iconst 0, 1) := by decide +kernel
theorem d22_18 : decode jdk_42_method_154_code 18 = .ok (.ireturn, 1) := by decide +kernel
theorem d23_0 : decode jdk_52_method_83_code 0 = .ok (.iload_n 1, 1) := by decide +kernel
theorem d23_1 : decode jdk_52_method_83_code 1 = .ok (.aload_n 0, 1) := by decide +kernel
theorem d23_2 : decode jdk_52_method_83_code 2 = .ok (.invokestatic 67, 3) := by decide +kernel
theorem d23_5 : decode jdk_52_method_83_code 5 = .ok (.aload_n 0, 1) := by decide +kernel
theorem d23_6 : decode jdk_52_method_83_code 6 = .ok (.iload_n 1, 1) := by decide +kernel
theorem d23_7 : decode jdk_52_method_83_code 7 = .ok (.invokestatic 71, 3) := by decide +kernel
theorem d23_10 : decode jdk_52_method_83_code 10 = .ok (.ireturn, 1) := by decide +kernel
theorem d24_0 : decode jdk_52_method_91_code 0 = .ok (.iload_n 0, 1) := by decide +kernel
theorem d24_1 : decode jdk_52_method_91_code 1 = .ok (.aload_n 1, 1) := by decide +kernel
theorem d24_2 : decode jdk_52_method_91_code 2 = .ok (.invokestatic 48, 3) := by decide +kernel
theorem d24_5 : decode jdk_52_method_91_code 5 = .ok (.invokestatic 414, 3) := by decide +kernel
theorem d24_8 : decode jdk_52_method_91_code 8 = .ok (.return_, 1) := by decide +kernel
theorem d25_0 : decode jdk_52_method_6_code 0 = .ok (.aload_n 0, 1) := by decide +kernel
theorem d25_1 : decode jdk_52_method_6_code 1 = .ok (.arraylength, 1) := by decide +kernel
theorem d25_2 : decode jdk_52_method_6_code 2 = .ok (.iconst 1, 1) := by decide +kernel
theorem d25_3 : decode jdk_52_method_6_code 3 = .ok (.ishr, 1) := by decide +kernel
theorem d25_4 : decode jdk_52_method_6_code 4 = .ok (.ireturn, 1) := by decide +kernel
theorem d26_0 : decode jdk_42_method_155_code 0 = .ok (.iload_n 0, 1) := by decide +kernel
theorem d26_1 : decode jdk_42_method_155_code 1 = .ok (.iload_n 1, 1) := by decide +kernel
theorem d26_2 : decode jdk_42_method_155_code 2 = .ok (.getstatic 1053, 3) := by decide +kernel
theorem d26_5 : decode jdk_42_method_155_code 5 = .ok (.invokestatic 1059, 3) := by decide +kernel
theorem d26_8 : decode jdk_42_method_155_code 8 = .ok (.pop, 1) := by decide +kernel
theorem d26_9 : decode jdk_42_method_155_code 9 = .ok (.return_, 1) := by decide +kernel
theorem d27_0 : decode jdk_41_method_11_code 0 = .ok (.iload_n 0, 1) := by decide +kernel
theorem d27_1 : decode jdk_41_method_11_code 1 = .ok (.ifCond .lt 8, 3) := by decide +kernel
theorem d27_4 : decode jdk_41_method_11_code 4 = .ok (.iload_n 0, 1) := by decide +kernel
theorem d27_5 : decode jdk_41_method_11_code 5 = .ok (.iload_n 1, 1) := by decide +kernel
theorem d27_6 : decode jdk_41_method_11_code 6 = .ok (.if_icmp .lt 10, 3) := by decide +kernel
theorem d27_16 : decode jdk_41_method_11_code 16 = .ok (.iload_n 0, 1) := by decide +kernel
theorem d27_17 : decode jdk_41_method_11_code 17 = .ok (.ireturn, 1) := by decide +kernel
theorem d28_0 : decode prog_1_method_3_code 0 = .ok (.iload_n 0, 1) := by decide +kernel
theorem d28_1 : decode prog_1_method_3_code 1 = .ok (.invokestatic 34, 3) := by decide +kernel
theorem d28_4 : decode prog_1_method_3_code 4 = .ok (.ifCond .eq 10, 3) := by decide +kernel
theorem d28_7 : decode prog_1_method_3_code 7 = .ok (.iload_n 0, 1) := by decide +kernel
theorem d28_8 : decode prog_1_method_3_code 8 = .ok (.ldc 40, 2) := by decide +kernel
theorem d28_10 : decode prog_1_method_3_code 10 = .ok (.iadd, 1) := by decide +kernel
theorem d28_11 : decode prog_1_method_3_code 11 = .ok (.goto 4, 3) := by decide +kernel
theorem d28_14 : decode prog_1_method_3_code 14 = .ok (.iload_n 0, 1) := by decide +kernel
theorem d28_15 : decode prog_1_method_3_code 15 = .ok (.ireturn, 1) := by decide +kernel
theorem d29_0 : decode jdk_89_method_16_code 0 = .ok (.iload_n 0, 1) := by decide +kernel
theorem d29_1 : decode jdk_89_method_16_code 1 = .ok (.ldc 75, 2) := by decide +kernel
theorem d29_3 : decode jdk_89_method_16_code 3 = .ok (.if_icmp .lt 13, 3) := by decide +kernel
theorem d29_6 : decode jdk_89_method_16_code 6 = .ok (.iload_n 0, 1) := by decide +kernel
theorem d29_7 : decode jdk_89_method_16_code 7 = .ok (.ldc 77, 2) := by decide +kernel
theorem d29_9 : decode jdk_89_method_16_code 9 = .ok (.if_icmp .ge 7, 3) := by decide +kernel
theorem d29_12 : decode jdk_89_method_16_code 12 = .ok (.iconst 1, 1) := by decide +kernel
theorem d29_13 : decode jdk_89_method_16_code 13 = .ok (.goto 4, 3) := by decide +kernel
theorem d29_16 : decode jdk_89_method_16_code 16 = .ok (.iconst 0, 1) := by decide +kernel
theorem d29_17 : decode jdk_89_method_16_code 17 = .ok (.ireturn, 1) := by decide +kernel
theorem d30_0 : decode jdk_43_method_2_code 0 = .ok (.iload_n 1, 1) := by decide +kernel
theorem d30_1 : decode jdk_43_method_2_code 1 = .ok (.aload_n 0, 1) := by decide +kernel
theorem d30_2 : decode jdk_43_method_2_code 2 = .ok (.arraylength, 1) := by decide +kernel
theorem d30_3 : decode jdk_43_method_2_code 3 = .ok (.invokestatic 9, 3) := by decide +kernel
theorem d30_6 : decode jdk_43_method_2_code 6 = .ok (.aload_n 0, 1) := by decide +kernel
theorem d30_7 : decode jdk_43_method_2_code 7 = .ok (.iload_n 1, 1) := by decide +kernel
theorem d30_8 : decode jdk_43_method_2_code 8 = .ok (.baload, 1) := by decide +kernel
theorem d30_9 : decode jdk_43_method_2_code 9 = .ok (.sipush 255, 3) := by decide +kernel
theorem d30_12 : decode jdk_43_method_2_code 12 = .ok (.iand, 1) := by decide +kernel
theorem d30_13 : decode jdk_43_method_2_code 13 = .ok (.i2c, 1) := by decide +kernel
theorem d30_14 : decode jdk_43_method_2_code 14 = .ok (.ireturn, 1) := by decide +kernel
theorem pn0 : plainFor (⟨"java/lang/String", "coder", "()B"⟩ : MethodName) = true := by first | exact plainFor_of_name (by first | (simp [plainName, overriddenIn]; done) | decide +kernel) | decide +kernel
theorem pn1 : plainFor (⟨"java/lang/String", "length", "()I"⟩ : MethodName) = true := by first | exact plainFor_of_name (by first | (simp [plainName, overriddenIn]; done) | decide +kernel) | decide +kernel
theorem pn2 : plainFor (⟨"java/lang/String", "isLatin1", "()Z"⟩ : MethodName) = true := by first | exact plainFor_of_name (by first | (simp [plainName, overriddenIn]; done) | decide +kernel) | decide +kernel
theorem pn3 : plainFor (⟨"jdk/internal/util/Preconditions", "checkIndex", "(IILjava/util/function/BiFunction;)I"⟩ : MethodName) = true := by first | exact plainFor_of_name (by first | (simp [plainName, overriddenIn]; done) | decide +kernel) | decide +kernel
theorem pn4 : plainFor (⟨"java/lang/String", "checkIndex", "(II)V"⟩ : MethodName) = true := by first | exact plainFor_of_name (by first | (simp [plainName, overriddenIn]; done) | decide +kernel) | decide +kernel
theorem pn5 : plainFor (⟨"java/lang/StringLatin1", "charAt", "([BI)C"⟩ : MethodName) = true := by first | exact plainFor_of_name (by first | (simp [plainName, overriddenIn]; done) | decide +kernel) | decide +kernel
theorem pn6 : plainFor (⟨"java/lang/StringUTF16", "length", "([B)I"⟩ : MethodName) = true := by first | exact plainFor_of_name (by first | (simp [plainName, overriddenIn]; done) | decide +kernel) | decide +kernel
theorem pn7 : plainFor (⟨"java/lang/StringUTF16", "checkIndex", "(I[B)V"⟩ : MethodName) = true := by first | exact plainFor_of_name (by first | (simp [plainName, overriddenIn]; done) | decide +kernel) | decide +kernel
theorem pn8 : plainFor (⟨"java/lang/StringUTF16", "getChar", "([BI)C"⟩ : MethodName) = true := by first | exact plainFor_of_name (by first | (simp [plainName, overriddenIn]; done) | decide +kernel) | decide +kernel
theorem pn9 : plainFor (⟨"java/lang/StringUTF16", "charAt", "([BI)C"⟩ : MethodName) = true := by first | exact plainFor_of_name (by first | (simp [plainName, overriddenIn]; done) | decide +kernel) | decide +kernel
theorem pn10 : plainFor (⟨"java/lang/String", "charAt", "(I)C"⟩ : MethodName) = true := by first | exact plainFor_of_name (by first | (simp [plainName, overriddenIn]; done) | decide +kernel) | decide +kernel
theorem pn11 : plainFor (⟨"java/lang/StringUTF16", "newBytesLength", "(I)I"⟩ : MethodName) = true := by first | exact plainFor_of_name (by first | (simp [plainName, overriddenIn]; done) | decide +kernel) | decide +kernel
theorem pn12 : plainFor (⟨"java/lang/StringUTF16", "newBytesFor", "(I)[B"⟩ : MethodName) = true := by first | exact plainFor_of_name (by first | (simp [plainName, overriddenIn]; done) | decide +kernel) | decide +kernel
theorem pn13 : plainFor (⟨"java/lang/StringUTF16", "putChar", "([BII)V"⟩ : MethodName) = true := by first | exact plainFor_of_name (by first | (simp [plainName, overriddenIn]; done) | decide +kernel) | decide +kernel
theorem pn14 : plainFor (⟨"java/lang/StringUTF16", "toBytes", "([CII)[B"⟩ : MethodName) = true := by first | exact plainFor_of_name (by first | (simp [plainName, overriddenIn]; done) | decide +kernel) | decide +kernel
theorem pn15 : plainFor (⟨"java/lang/StringUTF16", "compress", "([CI[BII)I"⟩ : MethodName) = true := by first | exact plainFor_of_name (by first | (simp [plainName, overriddenIn]; done) | decide +kernel) | decide +kernel
theorem pn16 : plainFor (⟨"java/lang/StringUTF16", "compress", "([CII)[B"⟩ : MethodName) = true := by first | exact plainFor_of_name (by first | (simp [plainName, overriddenIn]; done) | decide +kernel) | decide +kernel
theorem pn17 : plainFor (⟨"java/lang/StringUTF16", "coderFromArrayLen", "([BI)B"⟩ : MethodName) = true := by first | exact plainFor_of_name (by first | (simp [plainName, overriddenIn]; done) | decide +kernel) | decide +kernel
theorem pn18 : plainFor (⟨"java/lang/String", "<init>", "([CIILjava/lang/Void;)V"⟩ : MethodName) = true := by first | exact plainFor_of_name (by first | (simp [plainName, overriddenIn]; done) | decide +kernel) | decide +kernel
theorem pn19 : plainFor (⟨"java/lang/String", "<init>", "([C)V"⟩ : MethodName) = true := by first | exact plainFor_of_name (by first | (simp [plainName, overriddenIn]; done) | decide +kernel) | decide +kernel
theorem pn20 : plainFor (⟨"com/example/heredity/heredity/CodePointOrderComparePinLaw", "key", "(C)I"⟩ : MethodName) = true := by first | exact plainFor_of_name (by first | (simp [plainName, overriddenIn]; done) | decide +kernel) | decide +kernel
theorem pn21 : plainFor (⟨"com/example/heredity/heredity/CodePointOrderComparePinLaw", "cmpKeys", "(CC)I"⟩ : MethodName) = true := by first | exact plainFor_of_name (by first | (simp [plainName, overriddenIn]; done) | decide +kernel) | decide +kernel
theorem pn22 : plainFor (⟨"java/lang/Math", "min", "(II)I"⟩ : MethodName) = true := by first | exact plainFor_of_name (by first | (simp [plainName, overriddenIn]; done) | decide +kernel) | decide +kernel
theorem pn23 : plainFor (⟨"java/lang/Integer", "compare", "(II)I"⟩ : MethodName) = true := by first | exact plainFor_of_name (by first | (simp [plainName, overriddenIn]; done) | decide +kernel) | decide +kernel
theorem pn24 : plainFor (⟨"java/lang/Character", "isSurrogate", "(C)Z"⟩ : MethodName) = true := by first | exact plainFor_of_name (by first | (simp [plainName, overriddenIn]; done) | decide +kernel) | decide +kernel
theorem pn25 : plainFor (⟨"com/example/heredity/heredity/CodePointOrder", "rank", "(C)I"⟩ : MethodName) = true := by first | exact plainFor_of_name (by first | (simp [plainName, overriddenIn]; done) | decide +kernel) | decide +kernel
theorem pn26 : plainFor (⟨"com/example/heredity/heredity/CodePointOrder", "compare", "(Ljava/lang/String;Ljava/lang/String;)I"⟩ : MethodName) = true := by first | exact plainFor_of_name (by first | (simp [plainName, overriddenIn]; done) | decide +kernel) | decide +kernel
theorem pn27 : plainFor (⟨"com/example/heredity/heredity/CodePointOrderComparePinLaw", "ref", "(ICCICC)I"⟩ : MethodName) = true := by first | exact plainFor_of_name (by first | (simp [plainName, overriddenIn]; done) | decide +kernel) | decide +kernel
theorem pn28 : plainFor (⟨"com/example/heredity/heredity/CodePointOrderComparePinLaw", "str", "(ICC)Ljava/lang/String;"⟩ : MethodName) = true := by first | exact plainFor_of_name (by first | (simp [plainName, overriddenIn]; done) | decide +kernel) | decide +kernel
theorem pn29 : plainFor (⟨"com/example/heredity/heredity/CodePointOrderComparePinLaw", "law", "(III)Z"⟩ : MethodName) = true := by first | exact plainFor_of_name (by first | (simp [plainName, overriddenIn]; done) | decide +kernel) | decide +kernel
theorem pd0 : parseMethodDescriptor "()B" = some ⟨[], some .byte⟩ := by decide +kernel
theorem pd1 : parseMethodDescriptor "(IILjava/util/function/BiFunction;)I" = some ⟨[.int, .int, (.object "java/util/function/BiFunction")], some .int⟩ := by decide +kernel
theorem pd2 : parseMethodDescriptor "(II)V" = some ⟨[.int, .int], none⟩ := by decide +kernel
theorem pd3 : parseMethodDescriptor "([B)I" = some ⟨[(.array .byte)], some .int⟩ := by decide +kernel
theorem pd4 : parseMethodDescriptor "(I[B)V" = some ⟨[.int, (.array .byte)], none⟩ := by decide +kernel
theorem pd5 : parseMethodDescriptor "([BI)C" = some ⟨[(.array .byte), .int], some .char⟩ := by decide +kernel
theorem pd6 : parseMethodDescriptor "()Z" = some ⟨[], some .boolean⟩ := by decide +kernel
theorem pd7 : parseMethodDescriptor "(I)I" = some ⟨[.int], some .int⟩ := by decide +kernel
theorem pd8 : parseMethodDescriptor "(I)[B" = some ⟨[.int], some (.array .byte)⟩ := by decide +kernel
theorem pd9 : parseMethodDescriptor "([BII)V" = some ⟨[(.array .byte), .int, .int], none⟩ := by decide +kernel
theorem pd10 : parseMethodDescriptor "([CI[BII)I" = some ⟨[(.array .char), .int, (.array .byte), .int, .int], some .int⟩ := by decide +kernel
theorem pd11 : parseMethodDescriptor "([CII)[B" = some ⟨[(.array .char), .int, .int], some (.array .byte)⟩ := by decide +kernel
theorem pd12 : parseMethodDescriptor "([BI)B" = some ⟨[(.array .byte), .int], some .byte⟩ := by decide +kernel
theorem pd13 : parseMethodDescriptor "([CIILjava/lang/Void;)V" = some ⟨[(.array .char), .int, .int, (.object "java/lang/Void")], none⟩ := by decide +kernel
theorem pd14 : parseMethodDescriptor "(C)I" = some ⟨[.char], some .int⟩ := by decide +kernel
theorem pd15 : parseMethodDescriptor "(C)Z" = some ⟨[.char], some .boolean⟩ := by decide +kernel
theorem pd16 : parseMethodDescriptor "()I" = some ⟨[], some .int⟩ := by decide +kernel
theorem pd17 : parseMethodDescriptor "(II)I" = some ⟨[.int, .int], some .int⟩ := by decide +kernel
theorem pd18 : parseMethodDescriptor "(I)C" = some ⟨[.int], some .char⟩ := by decide +kernel
theorem pd19 : parseMethodDescriptor "(CC)I" = some ⟨[.char, .char], some .int⟩ := by decide +kernel
theorem pd20 : parseMethodDescriptor "([C)V" = some ⟨[(.array .char)], none⟩ := by decide +kernel
theorem pd21 : parseMethodDescriptor "(ICC)Ljava/lang/String;" = some ⟨[.int, .char, .char], some (.object "java/lang/String")⟩ := by decide +kernel
theorem pd22 : parseMethodDescriptor "(ICCICC)I" = some ⟨[.int, .char, .char, .int, .char, .char], some .int⟩ := by decide +kernel
theorem pd23 : parseMethodDescriptor "(Ljava/lang/String;Ljava/lang/String;)I" = some ⟨[(.object "java/lang/String"), (.object "java/lang/String")], some .int⟩ := by decide +kernel
theorem sn0 {Z : State} {a0 : Array Value} (hw : ∀ d ∈ tables_1, d.before a0 Z = true) : Jvm.RoadKit.slotOf Z "java/lang/String" "value" "[B" ≠ Jvm.RoadKit.slotOf Z "java/lang/String" "coder" "B" := slot_ne (C := "java/lang/String") (Or.inr (w34 hw)) (Or.inr (w32 hw)) (by decide) (t := (.array .byte)) (by decide) (t' := .byte) (by decide)
theorem sn1 {Z : State} {a0 : Array Value} (hw : ∀ d ∈ tables_1, d.before a0 Z = true) : Jvm.RoadKit.slotOf Z "java/lang/String" "coder" "B" ≠ Jvm.RoadKit.slotOf Z "java/lang/String" "value" "[B" := slot_ne (C := "java/lang/String") (Or.inr (w32 hw)) (Or.inr (w34 hw)) (by decide) (t := .byte) (by decide) (t' := (.array .byte)) (by decide)

/-! plain: the order of signs by code point -/
def own_key (c : Nat) : Nat := if 55296 ≤ c ∧ c ≤ 57343 then c + 8192 else if 57344 ≤ c then c - 2048 else c
def own_rank (c : Nat) : Nat := if 55296 ≤ c ∧ c < 57344 then c + 65536 else c
def own_ck (x y : Nat) : Int32 := if own_key x < own_key y then -1 else if own_key y < own_key x then 1 else 0
def own_ic (x y : Nat) : Int32 := if x < y then -1 else if x = y then 0 else 1
theorem own_key_or (c : Nat) : (c < 55296 ∧ own_key c = c ∧ own_rank c = c) ∨ (55296 ≤ c ∧ c ≤ 57343 ∧ own_key c = c + 8192 ∧ own_rank c = c + 65536) ∨ (57344 ≤ c ∧ own_key c = c - 2048 ∧ own_rank c = c) := by
  unfold own_key own_rank
  by_cases h1 : c < 55296
  · rw [if_neg (by omega), if_neg (by omega), if_neg (by omega)]; omega
  · by_cases h2 : c ≤ 57343
    · rw [if_pos (by omega), if_pos (by omega)]; omega
    · rw [if_neg (by omega), if_pos (by omega), if_neg (by omega)]; omega
theorem own_ck_ic {x y : Nat} (hx : x < 65536) (hy : y < 65536) : own_ic (own_rank x) (own_rank y) = own_ck x y := by
  have k1 := own_key_or x
  have k2 := own_key_or y
  have e1 : own_rank x < own_rank y ↔ own_key x < own_key y := by omega
  have e2 : own_rank x = own_rank y ↔ ¬ own_key x < own_key y ∧ ¬ own_key y < own_key x := by omega
  unfold own_ic own_ck
  by_cases h1 : own_key x < own_key y
  · rw [if_pos (e1.mpr h1), if_pos h1]
  · rw [if_neg (fun z => h1 (e1.mp z)), if_neg h1]
    by_cases h2 : own_key y < own_key x
    · rw [if_neg (fun z => (e2.mp z).2 h2), if_pos h2]
    · rw [if_pos (e2.mpr ⟨h1, h2⟩), if_neg h2]
theorem own_ck_self (x : Nat) : own_ck x x = 0 := by unfold own_ck; rw [if_neg (Nat.lt_irrefl _), if_neg (Nat.lt_irrefl _)]
def own_cmp (n m : Nat) : List Nat → List Nat → Int32
  | u :: us, v :: vs => if u = v then own_cmp n m us vs else own_ic (own_rank u) (own_rank v)
  | _, _ => own_ic n m
def own_ref (la a0 a1 lb b0 b1 : Nat) : Int32 := if 1 ≤ min la lb ∧ a0 ≠ b0 then own_ck a0 b0 else if 2 ≤ min la lb ∧ a1 ≠ b1 then own_ck a1 b1 else if la < lb then -1 else if lb < la then 1 else 0
theorem own_ic3 (x y : Nat) : own_ic x y = -1 ∨ own_ic x y = 0 ∨ own_ic x y = 1 := by
  unfold own_ic; split
  · exact Or.inl rfl
  · split
    · exact Or.inr (Or.inl rfl)
    · exact Or.inr (Or.inr rfl)
theorem own_cmp3 (n m : Nat) : ∀ us vs : List Nat, own_cmp n m us vs = -1 ∨ own_cmp n m us vs = 0 ∨ own_cmp n m us vs = 1
  | [], vs => own_ic3 n m
  | u :: us, [] => own_ic3 n m
  | u :: us, v :: vs => by
    rw [own_cmp]; split
    · exact own_cmp3 n m us vs
    · exact own_ic3 _ _
def own_two (len c0 c1 : Nat) : List Nat := [c0, c1].take len
theorem own_eqs {la a0 a1 lb b0 b1 : Nat} (hla : la < 3) (hlb : lb < 3) (h0 : a0 < 65536) (h1 : a1 < 65536) (g0 : b0 < 65536) (g1 : b1 < 65536) : own_cmp la lb (own_two la a0 a1) (own_two lb b0 b1) = own_ref la a0 a1 lb b0 b1 := by
  rcases (by omega : la = 0 ∨ la = 1 ∨ la = 2) with rfl | rfl | rfl <;> rcases (by omega : lb = 0 ∨ lb = 1 ∨ lb = 2) with rfl | rfl | rfl <;>
  by_cases e0 : a0 = b0 <;> by_cases e1 : a1 = b1 <;>
  simp [own_cmp, own_two, own_ref, own_ic, e0, e1] <;> first | done | (rw [← own_ck_ic h0 g0]; rfl) | (rw [← own_ck_ic h1 g1]; rfl) | skip
theorem own_two_len {len c0 c1 : Nat} (h : len < 3) : (own_two len c0 c1).length = len := by
  rw [own_two, List.length_take]; show min len 2 = len; omega
theorem own_two_ok {len c0 c1 : Nat} (h0 : c0 < 65536) (h1 : c1 < 65536) : ∀ c ∈ own_two len c0 c1, c < 65536 := fun c hc => by
  have := List.mem_of_mem_take hc
  simp at this; omega

theorem own_cmp_end (n m : Nat) (us vs : List Nat) (i : Nat) (h : us.length ≤ i ∨ vs.length ≤ i) : own_cmp n m (us.drop i) (vs.drop i) = own_ic n m := by
  rcases h with z | z
  · rw [List.drop_eq_nil_of_le z]; rfl
  · rw [List.drop_eq_nil_of_le z]; cases us.drop i <;> rfl

theorem own_ss {s : State} {args : Array Value} (hsets : ∀ w ∈ jdkStatics_1, w.before args s = true) : ∃ (cc : Int32) (fv : Value), own_SS s cc fv := by
  have h1 := Cond.before_iff.mp (hsets _ (List.mem_of_getElem? (i := 1) rfl))
  have h2 := Cond.before_iff.mp (hsets _ (List.mem_of_getElem? (i := 2) rfl))
  have h8 := Cond.before_iff.mp (hsets _ (List.mem_of_getElem? (i := 8) rfl))
  obtain ⟨cc, ec⟩ := is_v h1
  obtain ⟨fv, ef, hr⟩ := isR_v h8
  refine ⟨cc, fv, Sta.start ec (Or.inl (hsets _ (List.mem_of_getElem? (i := 0) rfl))), fun q => ?_, Sta.start ef (Or.inl (hsets _ (List.mem_of_getElem? (i := 7) rfl))), hr⟩
  have x1 := not_v h2
  have x2 := eq_i ec (Term.int_eval 0) (by rw [q])
  rw [x2] at x1
  cases x1

theorem own_su {s : State} {args : Array Value} (hsets : ∀ w ∈ jdkStatics_1, w.before args s = true) : own_SU s := by
  have h12 := Cond.before_iff.mp (hsets _ (List.mem_of_getElem? (i := 12) rfl))
  have h15 := Cond.before_iff.mp (hsets _ (List.mem_of_getElem? (i := 15) rfl))
  have h18 := Cond.before_iff.mp (hsets _ (List.mem_of_getElem? (i := 18) rfl))
  exact ⟨Sta.start (eqv_i (Term.int_eval 1) h12) (Or.inl (hsets _ (List.mem_of_getElem? (i := 11) rfl))), Sta.start (eqv_i (Term.int_eval 0) h15) (Or.inl (hsets _ (List.mem_of_getElem? (i := 14) rfl))), Sta.start (eqv_i (Term.int_eval 8) h18) (Or.inl (hsets _ (List.mem_of_getElem? (i := 17) rfl)))⟩

set_option maxRecDepth 65536 in
set_option maxHeartbeats 4000000 in
theorem c_coderG (l : Launch) (Z : State) (a0 : Array Value) (hw : ∀ d ∈ tables_1, d.before a0 Z = true) (n0 : Nat) (h0 : Heap) (cc : Int32) (fv : Value) (ss : own_SS Z cc fv) (ol : Old Z n0 h0) (a : Nat) (cv : Int32) (hcv : cv = 0 ∨ cv = 1) (F : Fld Z h0 a "java/lang/String" "coder" "B" (.int cv)) :
    Con l [] (⟨"java/lang/String", "coder", "()B"⟩ : MethodName) jdk_42_method_152_code 1 (some .byte) ({ frames := 0, cells := 0, slots := 0, locals := 0 } : Room) Z #[(.ref a)] h0 n0 (fun v h => v = some (.int cv) ∧ h0 = h) := by
  refine enter (Ls := #[.val (.ref a)]) pn0 (fun m => by first | (simp [entryFrame, mkF, argsToLocals, Value.category]; done) | rfl) ?_
  intro K C
  refine r_getS C (pc' := 3) d12_0 rfl (w19 hw) Via.refl (ss.1.ext ol.2) ?_
  refine r_if_eq_f C (pc' := 6) d12_3 rfl ss.2.1 ?_
  refine r_aloadN C (pc' := 7) d12_6 rfl rfl rfl ?_
  refine r_getF C (pc' := 10) d12_7 rfl (w31 hw) Via.refl F ?_
  refine r_goto C (pc' := 14) d12_10 (by decide) (by decide) ?_
  exact r_breturn C d12_14 (by rcases hcv with rfl | rfl <;> rfl) (by decide) (by decide) (Nat.zero_le _) (fun _ _ => ⟨rfl, rfl⟩)
set_option maxRecDepth 65536 in
set_option maxHeartbeats 4000000 in
theorem c_lengthG (l : Launch) (Z : State) (a0 : Array Value) (hw : ∀ d ∈ tables_1, d.before a0 Z = true) (n0 : Nat) (h0 : Heap) (cc : Int32) (fv : Value) (ss : own_SS Z cc fv) (ol : Old Z n0 h0) (a b : Nat) (k : ClassId) (us : List Nat) (G : GS Z h0 a b k us) :
    Con l [] (⟨"java/lang/String", "length", "()I"⟩ : MethodName) jdk_42_method_54_code 1 (some .int) ({ frames := 1, cells := 0, slots := 0, locals := 13 } : Room) Z #[(.ref a)] h0 n0 (fun v h => v = some (.int (i32 us.length)) ∧ h0 = h) := by
  refine enter (Ls := #[.val (.ref a)]) pn1 (fun m => by first | (simp [entryFrame, mkF, argsToLocals, Value.category]; done) | rfl) ?_
  intro K C
  rcases G with ⟨S, hb⟩ | ⟨S, hb⟩
  ·
    skip
    refine r_aloadN C (pc' := 1) d11_0 rfl rfl rfl ?_
    refine r_getF C (pc' := 4) d11_1 rfl (w33 hw) Via.refl S.2.2.1 ?_
    refine r_lengthV C (pc' := 5) (n := us.length) d11_4 rfl S.2.2.2 (own_blen us) ?_
    refine r_aloadN C (pc' := 6) d11_5 rfl rfl rfl ?_
    refine r_callV C (pc' := 9) (argsL := []) (c_coderG l Z a0 hw n0 h0 cc fv ss ol a 0 (Or.inl rfl) S.2.1) S.1 d11_6 rfl (w54 hw) (w55 hw) (nfSel (z := ({ cls := "java/lang/String", name := "coder", desc := "()B" } : Jvm.MethodName)) (w57 hw)) (w57 hw) (w56 hw) (w7 hw) (w58 hw) (by decide) pd0 (st := [.int (i32 us.length)]) rfl rfl rfl (W := 1) (Nat.le_of_eq rfl) (by decide) (by decide) (by decide) (by decide) (cells' := 0) (slots' := 0) rfl rfl ?_
    rintro _ _ ⟨rfl, rfl⟩
    show Run _ _ _ _ _ _ _ _ 9 #[.val (.ref a)] [.int (0 : Int32), .int (i32 us.length)]
    refine r_ishr C (pc' := 10) d11_9 rfl ?_
    rw [own_shr0]
    exact r_ireturn C d11_10 (by decide) (by decide) (Nat.zero_le _) (fun _ _ => ⟨rfl, rfl⟩)
  ·
    have hn : us.length < 1073741824 := by have := S.2.2.2.2; rw [by16_len] at this; omega
    refine r_aloadN C (pc' := 1) d11_0 rfl rfl rfl ?_
    refine r_getF C (pc' := 4) d11_1 rfl (w33 hw) Via.refl S.2.2.1 ?_
    refine r_lengthV C (pc' := 5) (n := (2 * us.length)) d11_4 rfl S.2.2.2 (by16_len us) ?_
    refine r_aloadN C (pc' := 6) d11_5 rfl rfl rfl ?_
    refine r_callV C (pc' := 9) (argsL := []) (c_coderG l Z a0 hw n0 h0 cc fv ss ol a 1 (Or.inr rfl) S.2.1) S.1 d11_6 rfl (w54 hw) (w55 hw) (nfSel (z := ({ cls := "java/lang/String", name := "coder", desc := "()B" } : Jvm.MethodName)) (w57 hw)) (w57 hw) (w56 hw) (w7 hw) (w58 hw) (by decide) pd0 (st := [.int (i32 (2 * us.length))]) rfl rfl rfl (W := 1) (Nat.le_of_eq rfl) (by decide) (by decide) (by decide) (by decide) (cells' := 0) (slots' := 0) rfl rfl ?_
    rintro _ _ ⟨rfl, rfl⟩
    show Run _ _ _ _ _ _ _ _ 9 #[.val (.ref a)] [.int (1 : Int32), .int (i32 (2 * us.length))]
    refine r_ishr C (pc' := 10) d11_9 rfl ?_
    rw [own_shr1 hn]
    exact r_ireturn C d11_10 (by decide) (by decide) (Nat.zero_le _) (fun _ _ => ⟨rfl, rfl⟩)
set_option maxRecDepth 65536 in
set_option maxHeartbeats 4000000 in
theorem c_isLatin1 (l : Launch) (Z : State) (a0 : Array Value) (hw : ∀ d ∈ tables_1, d.before a0 Z = true) (n0 : Nat) (h0 : Heap) (cc : Int32) (fv : Value) (ss : own_SS Z cc fv) (ol : Old Z n0 h0) (a : Nat) (F : Fld Z h0 a "java/lang/String" "coder" "B" (.int 0)) :
    Con l [] (⟨"java/lang/String", "isLatin1", "()Z"⟩ : MethodName) jdk_42_method_154_code 1 (some .boolean) ({ frames := 0, cells := 0, slots := 0, locals := 0 } : Room) Z #[(.ref a)] h0 n0 (fun v h => v = some (.int 1) ∧ h0 = h) := by
  refine enter (Ls := #[.val (.ref a)]) pn2 (fun m => by first | (simp [entryFrame, mkF, argsToLocals, Value.category]; done) | rfl) ?_
  intro K C
  refine r_getS C (pc' := 3) d22_0 rfl (w19 hw) Via.refl (ss.1.ext ol.2) ?_
  refine r_if_eq_f C (pc' := 6) d22_3 rfl ss.2.1 ?_
  refine r_aloadN C (pc' := 7) d22_6 rfl rfl rfl ?_
  refine r_getF C (pc' := 10) d22_7 rfl (w31 hw) Via.refl F ?_
  refine r_if_ne_f C (pc' := 13) d22_10 rfl (by decide) ?_
  refine r_iconst C (pc' := 14) (v := 1) d22_13 rfl rfl ?_
  refine r_goto C (pc' := 18) d22_14 (by decide) (by decide) ?_
  exact r_zreturn C d22_18 rfl (by decide) (by decide) (Nat.zero_le _) (fun _ _ => ⟨rfl, rfl⟩)
set_option maxRecDepth 65536 in
set_option maxHeartbeats 4000000 in
theorem c_isLatin1U (l : Launch) (Z : State) (a0 : Array Value) (hw : ∀ d ∈ tables_1, d.before a0 Z = true) (n0 : Nat) (h0 : Heap) (cc : Int32) (fv : Value) (ss : own_SS Z cc fv) (ol : Old Z n0 h0) (a : Nat) (F : Fld Z h0 a "java/lang/String" "coder" "B" (.int 1)) :
    Con l [] (⟨"java/lang/String", "isLatin1", "()Z"⟩ : MethodName) jdk_42_method_154_code 1 (some .boolean) ({ frames := 0, cells := 0, slots := 0, locals := 0 } : Room) Z #[(.ref a)] h0 n0 (fun v h => v = some (.int 0) ∧ h0 = h) := by
  refine enter (Ls := #[.val (.ref a)]) pn2 (fun m => by first | (simp [entryFrame, mkF, argsToLocals, Value.category]; done) | rfl) ?_
  intro K C
  refine r_getS C (pc' := 3) d22_0 rfl (w19 hw) Via.refl (ss.1.ext ol.2) ?_
  refine r_if_eq_f C (pc' := 6) d22_3 rfl ss.2.1 ?_
  refine r_aloadN C (pc' := 7) d22_6 rfl rfl rfl ?_
  refine r_getF C (pc' := 10) d22_7 rfl (w31 hw) Via.refl F ?_
  refine r_if_ne_t C (pc' := 17) d22_10 (by decide) (by decide) (by decide) ?_
  refine r_iconst C (pc' := 18) (v := 0) d22_17 rfl rfl ?_
  exact r_zreturn C d22_18 rfl (by decide) (by decide) (Nat.zero_le _) (fun _ _ => ⟨rfl, rfl⟩)
set_option maxRecDepth 65536 in
set_option maxHeartbeats 4000000 in
theorem c_pcheck (l : Launch) (Z : State) (a0 : Array Value) (hw : ∀ d ∈ tables_1, d.before a0 Z = true) (n0 : Nat) (h0 : Heap) (i n : Nat) (fv : Value) (hf : fv.isRef = true) (hn : n < 2147483648) (hi : i < n) :
    Con l [] (⟨"jdk/internal/util/Preconditions", "checkIndex", "(IILjava/util/function/BiFunction;)I"⟩ : MethodName) jdk_41_method_11_code 3 (some .int) ({ frames := 0, cells := 0, slots := 0, locals := 0 } : Room) Z #[(.int (i32 i)), (.int (i32 n)), fv] h0 n0 (fun v h => v = some (.int (i32 i)) ∧ h0 = h) := by
  refine enter (Ls := #[.val (.int (i32 i)), .val (.int (i32 n)), .val fv]) pn3 (fun m => by rcases ref_cases hf with rfl | ⟨zz, rfl⟩ <;> first | (simp [entryFrame, mkF, argsToLocals, Value.category]; done) | rfl) ?_
  intro K C
  refine r_iloadN C (pc' := 1) d27_0 rfl rfl ?_
  refine r_if_lt_f C (pc' := 4) d27_1 rfl (i32_nn (by omega)) ?_
  refine r_iloadN C (pc' := 5) d27_4 rfl rfl ?_
  refine r_iloadN C (pc' := 6) d27_5 rfl rfl ?_
  refine r_icmp_lt_t C (pc' := 16) d27_6 (by decide) (by decide) ((i32_lt (by omega) hn).mpr hi) ?_
  refine r_iloadN C (pc' := 17) d27_16 rfl rfl ?_
  exact r_ireturn C d27_17 (by decide) (by decide) (Nat.zero_le _) (fun _ _ => ⟨rfl, rfl⟩)
set_option maxRecDepth 65536 in
set_option maxHeartbeats 4000000 in
theorem c_scheck (l : Launch) (Z : State) (a0 : Array Value) (hw : ∀ d ∈ tables_1, d.before a0 Z = true) (n0 : Nat) (h0 : Heap) (cc : Int32) (fv : Value) (ss : own_SS Z cc fv) (ol : Old Z n0 h0) (i n : Nat) (hn : n < 2147483648) (hi : i < n) :
    Con l [] (⟨"java/lang/String", "checkIndex", "(II)V"⟩ : MethodName) jdk_42_method_155_code 2 none ({ frames := 1, cells := 0, slots := 0, locals := 14 } : Room) Z #[(.int (i32 i)), (.int (i32 n))] h0 n0 (fun v h => v = none ∧ h0 = h) := by
  refine enter (Ls := #[.val (.int (i32 i)), .val (.int (i32 n))]) pn4 (fun m => by first | (simp [entryFrame, mkF, argsToLocals, Value.category]; done) | rfl) ?_
  intro K C
  refine r_iloadN C (pc' := 1) d26_0 rfl rfl ?_
  refine r_iloadN C (pc' := 2) d26_1 rfl rfl ?_
  refine r_getS C (pc' := 5) d26_2 rfl (w113 hw) Via.refl (ss.2.2.1.ext ol.2) ?_
  refine r_callS C (pc' := 8) (argsL := [.int (i32 i), .int (i32 n), fv]) (c_pcheck l Z a0 hw n0 h0 i n fv ss.2.2.2 hn hi) d26_5 rfl (w115 hw) (w116 hw) (w114 hw) (w117 hw) (by decide) pd1 (st := []) rfl rfl rfl (W := 0) (Nat.le_of_eq rfl) (by decide) (by decide) (by decide) (by decide) (cells' := 0) (slots' := 0) rfl rfl ?_
  rintro _ _ ⟨rfl, rfl⟩
  show Run _ _ _ _ _ _ _ _ 8 #[.val (.int (i32 i)), .val (.int (i32 n))] [.int (i32 i)]
  refine r_pop C (pc' := 9) d26_8 rfl rfl ?_
  exact r_return C d26_9 (by decide) (by decide) (Nat.zero_le _) (fun _ _ => ⟨rfl, rfl⟩)
set_option maxRecDepth 65536 in
set_option maxHeartbeats 4000000 in
theorem c_l1charAt (l : Launch) (Z : State) (a0 : Array Value) (hw : ∀ d ∈ tables_1, d.before a0 Z = true) (n0 : Nat) (h0 : Heap) (cc : Int32) (fv : Value) (ss : own_SS Z cc fv) (ol : Old Z n0 h0) (b : Nat) (k : ClassId) (cs : List Nat) (A : AV Z h0 b k .byte ((cs.map by8).map Value.int) (.int 0)) (i c : Nat) (hc : cs[i]? = some c) (hb : c < 256) :
    Con l [] (⟨"java/lang/StringLatin1", "charAt", "([BI)C"⟩ : MethodName) jdk_43_method_2_code 2 (some .char) ({ frames := 2, cells := 0, slots := 0, locals := 27 } : Room) Z #[(.ref b), (.int (i32 i))] h0 n0 (fun v h => v = some (.int (i32 c)) ∧ h0 = h) := by
  refine enter (Ls := #[.val (.ref b), .val (.int (i32 i))]) pn5 (fun m => by first | (simp [entryFrame, mkF, argsToLocals, Value.category]; done) | rfl) ?_
  intro K C
  have hn : cs.length < 2147483648 := by have := A.2; rwa [own_blen] at this
  have hi := lt_of_get hc
  refine r_iloadN C (pc' := 1) d30_0 rfl rfl ?_
  refine r_aloadN C (pc' := 2) d30_1 rfl rfl rfl ?_
  refine r_lengthV C (pc' := 3) (n := cs.length) d30_2 rfl A (own_blen cs) ?_
  refine r_callS C (pc' := 6) (argsL := [.int (i32 i), .int (i32 cs.length)]) (c_scheck l Z a0 hw n0 h0 cc fv ss ol i cs.length hn hi) d30_3 rfl (w130 hw) (w111 hw) (w7 hw) (w112 hw) (by decide) pd2 (st := []) rfl rfl rfl (W := 0) (Nat.le_of_eq rfl) (by decide) (by decide) (by decide) (by decide) (cells' := 0) (slots' := 0) rfl rfl ?_
  rintro _ _ ⟨rfl, rfl⟩
  show Run _ _ _ _ _ _ _ _ 6 #[.val (.ref b), .val (.int (i32 i))] []
  refine r_aloadN C (pc' := 7) d30_6 rfl rfl rfl ?_
  refine r_iloadN C (pc' := 8) d30_7 rfl rfl ?_
  refine r_baloadV C (pc' := 9) (i := i) d30_8 rfl A rfl (own_bget hc) ?_
  refine r_sipush C (pc' := 12) (v := (255)) d30_9 rfl rfl ?_
  refine r_iand C (pc' := 13) d30_12 rfl ?_
  refine r_i2c C (pc' := 14) d30_13 rfl ?_
  rw [own_byte hb]
  exact r_creturn C d30_14 (own_narF ⟨c, by omega⟩) (by decide) (by decide) (Nat.zero_le _) (fun _ _ => ⟨rfl, rfl⟩)
set_option maxRecDepth 65536 in
set_option maxHeartbeats 4000000 in
theorem c_u16length (l : Launch) (Z : State) (a0 : Array Value) (hw : ∀ d ∈ tables_1, d.before a0 Z = true) (n0 : Nat) (h0 : Heap) (b : Nat) (k : ClassId) (us : List Nat) (A : AV Z h0 b k .byte ((by16 us).map Value.int) (.int 0)) :
    Con l [] (⟨"java/lang/StringUTF16", "length", "([B)I"⟩ : MethodName) jdk_52_method_6_code 1 (some .int) ({ frames := 0, cells := 0, slots := 0, locals := 0 } : Room) Z #[(.ref b)] h0 n0 (fun v h => v = some (.int (i32 us.length)) ∧ h0 = h) := by
  refine enter (Ls := #[.val (.ref b)]) pn6 (fun m => by first | (simp [entryFrame, mkF, argsToLocals, Value.category]; done) | rfl) ?_
  intro K C
  have hn : us.length < 1073741824 := by have := A.2; rw [by16_len] at this; omega
  refine r_aloadN C (pc' := 1) d25_0 rfl rfl rfl ?_
  refine r_lengthV C (pc' := 2) (n := (2 * us.length)) d25_1 rfl A (by16_len us) ?_
  refine r_iconst C (pc' := 3) (v := 1) d25_2 rfl rfl ?_
  refine r_ishr C (pc' := 4) d25_3 rfl ?_
  rw [own_shr1 hn]
  exact r_ireturn C d25_4 (by decide) (by decide) (Nat.zero_le _) (fun _ _ => ⟨rfl, rfl⟩)
set_option maxRecDepth 65536 in
set_option maxHeartbeats 4000000 in
theorem c_u16check (l : Launch) (Z : State) (a0 : Array Value) (hw : ∀ d ∈ tables_1, d.before a0 Z = true) (n0 : Nat) (h0 : Heap) (cc : Int32) (fv : Value) (ss : own_SS Z cc fv) (ol : Old Z n0 h0) (b : Nat) (k : ClassId) (us : List Nat) (A : AV Z h0 b k .byte ((by16 us).map Value.int) (.int 0)) (i : Nat) (hi : i < us.length) :
    Con l [] (⟨"java/lang/StringUTF16", "checkIndex", "(I[B)V"⟩ : MethodName) jdk_52_method_91_code 2 none ({ frames := 2, cells := 0, slots := 0, locals := 27 } : Room) Z #[(.int (i32 i)), (.ref b)] h0 n0 (fun v h => v = none ∧ h0 = h) := by
  refine enter (Ls := #[.val (.int (i32 i)), .val (.ref b)]) pn7 (fun m => by first | (simp [entryFrame, mkF, argsToLocals, Value.category]; done) | rfl) ?_
  intro K C
  have hn : us.length < 1073741824 := by have := A.2; rw [by16_len] at this; omega
  refine r_iloadN C (pc' := 1) d24_0 rfl rfl ?_
  refine r_aloadN C (pc' := 2) d24_1 rfl rfl rfl ?_
  refine r_callS C (pc' := 5) (argsL := [.ref b]) (c_u16length l Z a0 hw n0 h0 b k us A) d24_2 rfl (w107 hw) (w108 hw) (w22 hw) (w109 hw) (by decide) pd3 (st := [.int (i32 i)]) rfl rfl rfl (W := 1) (Nat.le_of_eq rfl) (by decide) (by decide) (by decide) (by decide) (cells' := 0) (slots' := 0) rfl rfl ?_
  rintro _ _ ⟨rfl, rfl⟩
  show Run _ _ _ _ _ _ _ _ 5 #[.val (.int (i32 i)), .val (.ref b)] [.int (i32 us.length), .int (i32 i)]
  refine r_callS C (pc' := 8) (argsL := [.int (i32 i), .int (i32 us.length)]) (c_scheck l Z a0 hw n0 _ cc fv ss ol i us.length (by omega) hi) d24_5 rfl (w110 hw) (w111 hw) (w7 hw) (w112 hw) (by decide) pd2 (st := []) rfl rfl rfl (W := 0) (Nat.le_of_eq rfl) (by decide) (by decide) (by decide) (by decide) (cells' := 0) (slots' := 0) rfl rfl ?_
  rintro _ _ ⟨rfl, rfl⟩
  show Run _ _ _ _ _ _ _ _ 8 #[.val (.int (i32 i)), .val (.ref b)] []
  exact r_return C d24_8 (by decide) (by decide) (Nat.zero_le _) (fun _ _ => ⟨rfl, rfl⟩)
set_option maxRecDepth 65536 in
set_option maxHeartbeats 4000000 in
theorem c_getChar (l : Launch) (Z : State) (a0 : Array Value) (hw : ∀ d ∈ tables_1, d.before a0 Z = true) (n0 : Nat) (h0 : Heap) (su : own_SU Z) (ol : Old Z n0 h0) (b : Nat) (k : ClassId) (us : List Nat) (A : AV Z h0 b k .byte ((by16 us).map Value.int) (.int 0)) (i c : Nat) (hc : us[i]? = some c) (hb : c < 65536) :
    Con l [] (⟨"java/lang/StringUTF16", "getChar", "([BI)C"⟩ : MethodName) jdk_52_method_5_code 2 (some .char) ({ frames := 0, cells := 0, slots := 0, locals := 0 } : Room) Z #[(.ref b), (.int (i32 i))] h0 n0 (fun v h => v = some (.int (i32 c)) ∧ h0 = h) := by
  refine enter (Ls := #[.val (.ref b), .val (.int (i32 i))]) pn8 (fun m => by first | (simp [entryFrame, mkF, argsToLocals, Value.category]; done) | rfl) ?_
  intro K C
  have hn : us.length < 1073741824 := by have := A.2; rw [by16_len] at this; omega
  have hi := lt_of_get hc
  refine r_getS C (pc' := 3) d18_0 rfl (w77 hw) Via.refl (su.1.ext ol.2) ?_
  refine r_if_ne_t C (pc' := 28) d18_3 (by decide) (by decide) (by decide) ?_
  refine r_iloadN C (pc' := 29) d18_28 rfl rfl ?_
  refine r_iconst C (pc' := 30) (v := 1) d18_29 rfl rfl ?_
  refine r_ishl C (pc' := 31) d18_30 rfl ?_
  rw [own_shl1 (by omega)]
  refine r_istoreN C (pc' := 32) (Ls' := #[.val (.ref b), .val (.int (i32 (2 * i)))]) d18_31 rfl rfl ?_
  refine r_aloadN C (pc' := 33) d18_32 rfl rfl rfl ?_
  refine r_iloadN C (pc' := 34) d18_33 rfl rfl ?_
  refine r_iinc C (pc' := 37) (v := (1)) (Ls' := #[.val (.ref b), .val (.int ((i32 (2 * i)) + (1 : Int32)))]) d18_34 rfl rfl rfl rfl ?_
  refine r_baloadV C (pc' := 38) (i := (2 * i)) d18_37 rfl A rfl (own_uget0 hc) ?_
  refine r_sipush C (pc' := 41) (v := (255)) d18_38 rfl rfl ?_
  refine r_iand C (pc' := 42) d18_41 rfl ?_
  refine r_getS C (pc' := 45) d18_42 rfl (w78 hw) Via.refl (su.2.1.ext ol.2) ?_
  refine r_ishl C (pc' := 46) d18_45 rfl ?_
  refine r_aloadN C (pc' := 47) d18_46 rfl rfl rfl ?_
  refine r_iloadN C (pc' := 48) d18_47 rfl rfl ?_
  refine r_baloadV C (pc' := 49) (i := (2 * i + 1)) d18_48 rfl A (i32_add (2 * i) 1) (own_uget1 hc) ?_
  refine r_sipush C (pc' := 52) (v := (255)) d18_49 rfl rfl ?_
  refine r_iand C (pc' := 53) d18_52 rfl ?_
  refine r_getS C (pc' := 56) d18_53 rfl (w79 hw) Via.refl (su.2.2.ext ol.2) ?_
  refine r_ishl C (pc' := 57) d18_56 rfl ?_
  refine r_ior C (pc' := 58) d18_57 rfl ?_
  refine r_i2c C (pc' := 59) d18_58 rfl ?_
  rw [by8_255, by8_255, own_glue hb, own_ch hb]
  exact r_creturn C d18_59 (own_narF ⟨c, hb⟩) (by decide) (by decide) (Nat.zero_le _) (fun _ _ => ⟨rfl, rfl⟩)
set_option maxRecDepth 65536 in
set_option maxHeartbeats 4000000 in
theorem c_u16charAt (l : Launch) (Z : State) (a0 : Array Value) (hw : ∀ d ∈ tables_1, d.before a0 Z = true) (n0 : Nat) (h0 : Heap) (cc : Int32) (fv : Value) (ss : own_SS Z cc fv) (ol : Old Z n0 h0) (su : own_SU Z) (b : Nat) (k : ClassId) (us : List Nat) (A : AV Z h0 b k .byte ((by16 us).map Value.int) (.int 0)) (i c : Nat) (hc : us[i]? = some c) (hb : c < 65536) :
    Con l [] (⟨"java/lang/StringUTF16", "charAt", "([BI)C"⟩ : MethodName) jdk_52_method_83_code 2 (some .char) ({ frames := 3, cells := 0, slots := 0, locals := 40 } : Room) Z #[(.ref b), (.int (i32 i))] h0 n0 (fun v h => v = some (.int (i32 c)) ∧ h0 = h) := by
  refine enter (Ls := #[.val (.ref b), .val (.int (i32 i))]) pn9 (fun m => by first | (simp [entryFrame, mkF, argsToLocals, Value.category]; done) | rfl) ?_
  intro K C
  refine r_iloadN C (pc' := 1) d23_0 rfl rfl ?_
  refine r_aloadN C (pc' := 2) d23_1 rfl rfl rfl ?_
  refine r_callS C (pc' := 5) (argsL := [.int (i32 i), .ref b]) (c_u16check l Z a0 hw n0 h0 cc fv ss ol b k us A i (lt_of_get hc)) d23_2 rfl (w104 hw) (w105 hw) (w22 hw) (w106 hw) (by decide) pd4 (st := []) rfl rfl rfl (W := 0) (Nat.le_of_eq rfl) (by decide) (by decide) (by decide) (by decide) (cells' := 0) (slots' := 0) rfl rfl ?_
  rintro _ _ ⟨rfl, rfl⟩
  show Run _ _ _ _ _ _ _ _ 5 #[.val (.ref b), .val (.int (i32 i))] []
  refine r_aloadN C (pc' := 6) d23_5 rfl rfl rfl ?_
  refine r_iloadN C (pc' := 7) d23_6 rfl rfl ?_
  refine r_callS C (pc' := 10) (argsL := [.ref b, .int (i32 i)]) (c_getChar l Z a0 hw n0 _ su ol b k us A i c hc hb) d23_7 rfl (w80 hw) (w81 hw) (w22 hw) (w82 hw) (by decide) pd5 (st := []) rfl rfl rfl (W := 0) (Nat.le_of_eq rfl) (by decide) (by decide) (by decide) (by decide) (cells' := 0) (slots' := 0) rfl rfl ?_
  rintro _ _ ⟨rfl, rfl⟩
  show Run _ _ _ _ _ _ _ _ 10 #[.val (.ref b), .val (.int (i32 i))] [.int (i32 c)]
  exact r_creturn C d23_10 (own_narF ⟨c, hb⟩) (by decide) (by decide) (Nat.zero_le _) (fun _ _ => ⟨rfl, rfl⟩)
set_option maxRecDepth 65536 in
set_option maxHeartbeats 4000000 in
theorem c_charAtG (l : Launch) (Z : State) (a0 : Array Value) (hw : ∀ d ∈ tables_1, d.before a0 Z = true) (n0 : Nat) (h0 : Heap) (cc : Int32) (fv : Value) (ss : own_SS Z cc fv) (ol : Old Z n0 h0) (su : own_SU Z) (a b : Nat) (k : ClassId) (us : List Nat) (G : GS Z h0 a b k us) (i c : Nat) (hc : us[i]? = some c) :
    Con l [] (⟨"java/lang/String", "charAt", "(I)C"⟩ : MethodName) jdk_42_method_56_code 2 (some .char) ({ frames := 4, cells := 0, slots := 0, locals := 53 } : Room) Z #[(.ref a), (.int (i32 i))] h0 n0 (fun v h => v = some (.int (i32 c)) ∧ h0 = h) := by
  refine enter (Ls := #[.val (.ref a), .val (.int (i32 i))]) pn10 (fun m => by first | (simp [entryFrame, mkF, argsToLocals, Value.category]; done) | rfl) ?_
  intro K C
  rcases G with ⟨S, hb⟩ | ⟨S, hb⟩
  ·
    replace hb := hb c (List.mem_of_getElem? hc)
    refine r_aloadN C (pc' := 1) d21_0 rfl rfl rfl ?_
    refine r_callV C (pc' := 4) (argsL := []) (c_isLatin1 l Z a0 hw n0 h0 cc fv ss ol a S.2.1) S.1 d21_1 rfl (w96 hw) (w97 hw) (nfSel (z := ({ cls := "java/lang/String", name := "isLatin1", desc := "()Z" } : Jvm.MethodName)) (w99 hw)) (w99 hw) (w98 hw) (w7 hw) (w100 hw) (by decide) pd6 (st := []) rfl rfl rfl (W := 0) (Nat.le_of_eq rfl) (by decide) (by decide) (by decide) (by decide) (cells' := 0) (slots' := 0) rfl rfl ?_
    rintro _ _ ⟨rfl, rfl⟩
    show Run _ _ _ _ _ _ _ _ 4 #[.val (.ref a), .val (.int (i32 i))] [.int (1 : Int32)]
    refine r_if_eq_f C (pc' := 7) d21_4 rfl (by decide) ?_
    refine r_aloadN C (pc' := 8) d21_7 rfl rfl rfl ?_
    refine r_getF C (pc' := 11) d21_8 rfl (w33 hw) Via.refl S.2.2.1 ?_
    refine r_iloadN C (pc' := 12) d21_11 rfl rfl ?_
    refine r_callS C (pc' := 15) (argsL := [.ref b, .int (i32 i)]) (c_l1charAt l Z a0 hw n0 _ cc fv ss ol b k us S.2.2.2 i c hc hb) d21_12 rfl (w126 hw) (w127 hw) (w128 hw) (w129 hw) (by decide) pd5 (st := []) rfl rfl rfl (W := 0) (Nat.le_of_eq rfl) (by decide) (by decide) (by decide) (by decide) (cells' := 0) (slots' := 0) rfl rfl ?_
    rintro _ _ ⟨rfl, rfl⟩
    show Run _ _ _ _ _ _ _ _ 15 #[.val (.ref a), .val (.int (i32 i))] [.int (i32 c)]
    exact r_creturn C d21_15 (own_narF ⟨c, by omega⟩) (by decide) (by decide) (Nat.zero_le _) (fun _ _ => ⟨rfl, rfl⟩)
  ·
    replace hb := hb c (List.mem_of_getElem? hc)
    refine r_aloadN C (pc' := 1) d21_0 rfl rfl rfl ?_
    refine r_callV C (pc' := 4) (argsL := []) (c_isLatin1U l Z a0 hw n0 h0 cc fv ss ol a S.2.1) S.1 d21_1 rfl (w96 hw) (w97 hw) (nfSel (z := ({ cls := "java/lang/String", name := "isLatin1", desc := "()Z" } : Jvm.MethodName)) (w99 hw)) (w99 hw) (w98 hw) (w7 hw) (w100 hw) (by decide) pd6 (st := []) rfl rfl rfl (W := 0) (Nat.le_of_eq rfl) (by decide) (by decide) (by decide) (by decide) (cells' := 0) (slots' := 0) rfl rfl ?_
    rintro _ _ ⟨rfl, rfl⟩
    show Run _ _ _ _ _ _ _ _ 4 #[.val (.ref a), .val (.int (i32 i))] [.int (0 : Int32)]
    refine r_if_eq_t C (pc' := 16) d21_4 (by decide) (by decide) (by decide) ?_
    refine r_aloadN C (pc' := 17) d21_16 rfl rfl rfl ?_
    refine r_getF C (pc' := 20) d21_17 rfl (w33 hw) Via.refl S.2.2.1 ?_
    refine r_iloadN C (pc' := 21) d21_20 rfl rfl ?_
    refine r_callS C (pc' := 24) (argsL := [.ref b, .int (i32 i)]) (c_u16charAt l Z a0 hw n0 _ cc fv ss ol su b k us S.2.2.2 i c hc hb) d21_21 rfl (w101 hw) (w102 hw) (w22 hw) (w103 hw) (by decide) pd5 (st := []) rfl rfl rfl (W := 0) (Nat.le_of_eq rfl) (by decide) (by decide) (by decide) (by decide) (cells' := 0) (slots' := 0) rfl rfl ?_
    rintro _ _ ⟨rfl, rfl⟩
    show Run _ _ _ _ _ _ _ _ 24 #[.val (.ref a), .val (.int (i32 i))] [.int (i32 c)]
    exact r_creturn C d21_24 (own_narF ⟨c, hb⟩) (by decide) (by decide) (Nat.zero_le _) (fun _ _ => ⟨rfl, rfl⟩)
set_option maxRecDepth 65536 in
set_option maxHeartbeats 4000000 in
theorem c_nbl (l : Launch) (Z : State) (a0 : Array Value) (hw : ∀ d ∈ tables_1, d.before a0 Z = true) (n0 : Nat) (h0 : Heap) (n : Nat) (hn : n < 1073741823) :
    Con l [] (⟨"java/lang/StringUTF16", "newBytesLength", "(I)I"⟩ : MethodName) jdk_52_method_3_code 1 (some .int) ({ frames := 0, cells := 0, slots := 0, locals := 0 } : Room) Z #[(.int (i32 n))] h0 n0 (fun v h => v = some (.int (i32 (2 * n))) ∧ h0 = h) := by
  refine enter (Ls := #[.val (.int (i32 n))]) pn11 (fun m => by first | (simp [entryFrame, mkF, argsToLocals, Value.category]; done) | rfl) ?_
  intro K C
  refine r_iloadN C (pc' := 1) d16_0 rfl rfl ?_
  refine r_if_ge_t C (pc' := 12) d16_1 (by decide) (by decide) (i32_nn (by omega)) ?_
  refine r_iloadN C (pc' := 13) d16_12 rfl rfl ?_
  refine r_ldcI C (pc' := 15) d16_13 rfl (w73 hw) ?_
  refine r_icmp_lt_t C (pc' := 55) d16_15 (by decide) (by decide) ((i32_lt (b := 1073741823) (by omega) (by decide)).mpr hn) ?_
  refine r_iloadN C (pc' := 56) d16_55 rfl rfl ?_
  refine r_iconst C (pc' := 57) (v := 1) d16_56 rfl rfl ?_
  refine r_ishl C (pc' := 58) d16_57 rfl ?_
  rw [own_shl1 (by omega)]
  exact r_ireturn C d16_58 (by decide) (by decide) (Nat.zero_le _) (fun _ _ => ⟨rfl, rfl⟩)
set_option maxRecDepth 65536 in
set_option maxHeartbeats 4000000 in
theorem c_nbf (l : Launch) (Z : State) (a0 : Array Value) (hw : ∀ d ∈ tables_1, d.before a0 Z = true) (n0 : Nat) (h0 : Heap) (n : Nat) (hn : n ≤ 2) :
    Con l [] (⟨"java/lang/StringUTF16", "newBytesFor", "(I)[B"⟩ : MethodName) jdk_52_method_2_code 1 (some (.array .byte)) ({ frames := 1, cells := 1, slots := 4, locals := 12 } : Room) Z #[(.int (i32 n))] h0 n0 (fun v h => ∃ (b : Nat) (kb : ClassId), v = some (.ref b) ∧ b = h0.size ∧ Ext h0 h ∧ AV Z h b kb .byte (List.replicate (2 * n) (.int 0)) (.int 0)) := by
  refine enter (Ls := #[.val (.int (i32 n))]) pn12 (fun m => by first | (simp [entryFrame, mkF, argsToLocals, Value.category]; done) | rfl) ?_
  intro K C
  refine r_iloadN C (pc' := 1) d15_0 rfl rfl ?_
  refine r_callS C (pc' := 4) (argsL := [.int (i32 n)]) (c_nbl l Z a0 hw n0 h0 n (by omega)) d15_1 rfl (w70 hw) (w71 hw) (w22 hw) (w72 hw) (by decide) pd7 (st := []) rfl rfl rfl (W := 0) (Nat.le_of_eq rfl) (by decide) (by decide) (by decide) (by decide) (cells' := 0) (slots' := 0) rfl rfl ?_
  rintro _ _ ⟨rfl, rfl⟩
  show Run _ _ _ _ _ _ _ _ 4 #[.val (.int (i32 n))] [.int (i32 (2 * n))]
  refine r_newarrayV C (pc' := 6) (ty := .byte) (m := (2 * n)) (cap := 4) d15_4 rfl rfl (w24 hw) rfl (by omega) (by decide) (by decide) (by decide) ?_
  intro h1 b kb gb E1 B1
  exact r_areturn C d15_6 rfl rfl (by decide) (by decide) (Nat.zero_le _) (fun _ _ => ⟨b, kb, rfl, gb, E1, B1⟩)
set_option maxRecDepth 65536 in
set_option maxHeartbeats 4000000 in
theorem c_putChar (l : Launch) (Z : State) (a0 : Array Value) (hw : ∀ d ∈ tables_1, d.before a0 Z = true) (n0 : Nat) (h0 : Heap) (su : own_SU Z) (ol : Old Z n0 h0) (b : Nat) (k : ClassId) (ws : List Value) (B : AV Z h0 b k .byte ws (.int 0)) (i c : Nat) (hi : 2 * i + 1 < ws.length) (hb : c < 65536) (ge : n0 ≤ b) :
    Con l [] (⟨"java/lang/StringUTF16", "putChar", "([BII)V"⟩ : MethodName) jdk_52_method_4_code 3 none ({ frames := 0, cells := 0, slots := 0, locals := 0 } : Room) Z #[(.ref b), (.int (i32 i)), (.int (i32 c))] h0 n0 (fun v h => v = none ∧ Keep h0 h [b] ∧ AV Z h b k .byte ((ws.set (2 * i) (.int (by8 c))).set (2 * i + 1) (.int (by8 (c / 256)))) (.int 0)) := by
  refine enter (Ls := #[.val (.ref b), .val (.int (i32 i)), .val (.int (i32 c))]) pn13 (fun m => by first | (simp [entryFrame, mkF, argsToLocals, Value.category]; done) | rfl) ?_
  intro K C
  refine r_getS C (pc' := 3) d17_0 rfl (w77 hw) Via.refl (su.1.ext ol.2) ?_
  refine r_if_ne_t C (pc' := 28) d17_3 (by decide) (by decide) (by decide) ?_
  refine r_iloadN C (pc' := 29) d17_28 rfl rfl ?_
  refine r_iconst C (pc' := 30) (v := 1) d17_29 rfl rfl ?_
  refine r_ishl C (pc' := 31) d17_30 rfl ?_
  rw [own_shl1 (by have := B.2; omega)]
  refine r_istoreN C (pc' := 32) (Ls' := #[.val (.ref b), .val (.int (i32 (2 * i))), .val (.int (i32 c))]) d17_31 rfl rfl ?_
  refine r_aloadN C (pc' := 33) d17_32 rfl rfl rfl ?_
  refine r_iloadN C (pc' := 34) d17_33 rfl rfl ?_
  refine r_iinc C (pc' := 37) (v := (1)) (Ls' := #[.val (.ref b), .val (.int ((i32 (2 * i)) + (1 : Int32))), .val (.int (i32 c))]) d17_34 rfl rfl rfl rfl ?_
  refine r_iloadN C (pc' := 38) d17_37 rfl rfl ?_
  refine r_getS C (pc' := 41) d17_38 rfl (w78 hw) Via.refl (su.2.1.ext ol.2) ?_
  refine r_ishr C (pc' := 42) d17_41 rfl ?_
  refine r_i2b C (pc' := 43) d17_42 rfl ?_
  refine r_bastoreV C (pc' := 44) (i := (2 * i)) d17_43 rfl B rfl (by omega) (fits_nar_byte _) ge ?_
  intro h1 W1 B1
  replace ol := ol.wr W1 ge
  refine r_aloadN C (pc' := 45) d17_44 rfl rfl rfl ?_
  refine r_iloadN C (pc' := 46) d17_45 rfl rfl ?_
  refine r_iloadN C (pc' := 47) d17_46 rfl rfl ?_
  refine r_getS C (pc' := 50) d17_47 rfl (w79 hw) Via.refl (su.2.2.ext ol.2) ?_
  refine r_ishr C (pc' := 51) d17_50 rfl ?_
  refine r_i2b C (pc' := 52) d17_51 rfl ?_
  refine r_bastoreV C (pc' := 53) (i := (2 * i + 1)) d17_52 rfl B1 (i32_add (2 * i) 1) (by rw [List.length_set]; omega) (fits_nar_byte _) ge ?_
  intro h2 W2 B2
  rw [own_shr0, own_shr8 (by omega)] at B2
  have e1 := own_bynar c; have e2 := own_bynar (c / 256); unfold by8 at e1 e2; rw [e1, e2] at B2
  exact r_return C d17_53 (by decide) (by decide) (Nat.zero_le _) (fun _ _ => ⟨rfl, ((Keep.refl h0 [b]).wr W1 (Or.inl (by simp))).wr W2 (Or.inl (by simp)), B2⟩)
set_option maxRecDepth 65536 in
set_option maxHeartbeats 4000000 in
theorem c_u16toBytes (l : Launch) (Z : State) (a0 : Array Value) (hw : ∀ d ∈ tables_1, d.before a0 Z = true) (n0 : Nat) (h0 : Heap) (su : own_SU Z) (ol : Old Z n0 h0) (hn : n0 ≤ h0.size) (a : Nat) (ka : ClassId) (us : List Nat) (A : AV Z h0 a ka .char (us.map vch) (.int 0)) (hus : ∀ c ∈ us, c < 65536) (hcap : us.length ≤ 2) :
    Con l [] (⟨"java/lang/StringUTF16", "toBytes", "([CII)[B"⟩ : MethodName) jdk_52_method_14_code 5 (some (.array .byte)) ({ frames := 2, cells := 1, slots := 4, locals := 24 } : Room) Z #[(.ref a), (.int (0 : Int32)), (.int (i32 us.length))] h0 n0 (fun v h => ∃ (b : Nat) (kb : ClassId), v = some (.ref b) ∧ b = h0.size ∧ Keep h0 h [] ∧ AV Z h b kb .byte ((by16 us).map Value.int) (.int 0)) := by
  refine enter (Ls := #[.val (.ref a), .val (.int (0 : Int32)), .val (.int (i32 us.length)), .unset, .unset]) pn14 (fun m => by first | (simp [entryFrame, mkF, argsToLocals, Value.category]; done) | rfl) ?_
  intro K C
  have la := A.lt
  refine r_iloadN C (pc' := 1) d14_0 rfl rfl ?_
  refine r_callS C (pc' := 4) (argsL := [.int (i32 us.length)]) (c_nbf l Z a0 hw n0 h0 us.length hcap) d14_1 rfl (w67 hw) (w68 hw) (w22 hw) (w69 hw) (by decide) pd8 (st := []) rfl rfl rfl (W := 0) (Nat.le_of_eq rfl) (by decide) (by decide) (by decide) (by decide) (cells' := 1) (slots' := 4) rfl rfl ?_
  rintro _ h1 ⟨b, kb, rfl, gb, E1, B1⟩
  show Run _ _ _ _ _ h1 _ _ 4 #[.val (.ref a), .val (.int (0 : Int32)), .val (.int (i32 us.length)), .unset, .unset] [.ref b]
  have loop : ∀ (m i : Nat) (h : Heap) (ws : List Value), us.length - i = m → i ≤ us.length → ws.length = 2 * us.length → ws.take (2 * i) = (by16 (us.take i)).map Value.int → Keep h0 h [] → Old Z n0 h → AV Z h b kb .byte ws (.int 0) → AV Z h a ka .char (us.map vch) (.int 0) → Run l ({ frames := 2, cells := 1, slots := 4, locals := 24 } : Room) n0 (fun v h _ => ∃ (b : Nat) (kb : ClassId), v = some (.ref b) ∧ b = h0.size ∧ Keep h0 h [] ∧ AV Z h b kb .byte ((by16 us).map Value.int) (.int 0)) K h 1 4 8 #[.val (.ref a), .val (.int (i32 i)), .val (.int (i32 us.length)), .val (.ref b), .val (.int (i32 i))] [] := by
    intro m
    induction m with
    | zero =>
      intro i h ws hm hi hl ht Kp ol B A
      obtain rfl : i = us.length := by omega
      refine r_iload C (pc' := 10) d14_8 rfl rfl ?_
      refine r_iloadN C (pc' := 11) d14_10 rfl rfl ?_
      refine r_icmp_ge_t C (pc' := 32) d14_11 (by decide) (by decide) (fun q => absurd ((i32_lt (by omega) (by omega)).mp q) (Nat.lt_irrefl _)) ?_
      refine r_aloadN C (pc' := 33) d14_32 rfl rfl rfl ?_
      exact r_areturn C d14_33 rfl rfl (by decide) (by decide) (Nat.zero_le _) (fun _ _ => ⟨b, kb, rfl, gb, Kp, by rw [← hl, List.take_length, List.take_length] at ht; rw [← ht]; exact B⟩)
    | succ m ih =>
      intro i h ws hm hi hl ht Kp ol B A
      have hlt : i < us.length := by omega
      obtain ⟨c, hc⟩ : ∃ c, us[i]? = some c := ⟨_, List.getElem?_eq_getElem hlt⟩
      have hb := hus c (List.mem_of_getElem? hc)
      refine r_iload C (pc' := 10) d14_8 rfl rfl ?_
      refine r_iloadN C (pc' := 11) d14_10 rfl rfl ?_
      refine r_icmp_ge_f C (pc' := 14) d14_11 rfl ((i32_lt (by omega) (by omega)).mpr hlt) ?_
      refine r_aloadN C (pc' := 15) d14_14 rfl rfl rfl ?_
      refine r_iload C (pc' := 17) d14_15 rfl rfl ?_
      refine r_aloadN C (pc' := 18) d14_17 rfl rfl rfl ?_
      refine r_iloadN C (pc' := 19) d14_18 rfl rfl ?_
      refine r_caloadV C (pc' := 20) (i := i) d14_19 rfl A rfl (own_cget hc) ?_
      refine r_callS C (pc' := 23) (argsL := [.ref b, .int (i32 i), .int (i32 c)]) (c_putChar l Z a0 hw n0 h su ol b kb ws B i c (by omega) hb (by omega)) d14_20 rfl (w74 hw) (w75 hw) (w22 hw) (w76 hw) (by decide) pd9 (st := []) rfl rfl rfl (W := 0) (Nat.le_of_eq rfl) (by decide) (by decide) (by decide) (by decide) (cells' := 1) (slots' := 4) rfl rfl ?_
      rintro _ h2 ⟨rfl, K2, B2⟩
      show Run _ _ _ _ _ h2 _ _ 23 #[.val (.ref a), .val (.int (i32 i)), .val (.int (i32 us.length)), .val (.ref b), .val (.int (i32 i))] []
      refine r_iinc C (pc' := 26) (v := (1)) (Ls' := #[.val (.ref a), .val (.int ((i32 i) + (1 : Int32))), .val (.int (i32 us.length)), .val (.ref b), .val (.int (i32 i))]) d14_23 rfl rfl rfl rfl ?_
      refine r_iinc C (pc' := 29) (v := (1)) (Ls' := #[.val (.ref a), .val (.int ((i32 i) + (1 : Int32))), .val (.int (i32 us.length)), .val (.ref b), .val (.int ((i32 i) + (1 : Int32)))]) d14_26 rfl rfl rfl rfl ?_
      refine r_goto C (pc' := 8) d14_29 (by decide) (by decide) ?_
      rw [show i32 i + (1 : Int32) = i32 (i + 1) from i32_add i 1]
      refine ih (i + 1) h2 _ (by omega) hlt (by rw [List.length_set, List.length_set]; exact hl) ?_ (Kp.trans K2 (allS (Or.inr (by omega)) all0)) (ol.keep K2 (allS (by omega) all0)) B2 (A.keep K2 (ninS (nn (by omega)) nin0))
      rw [show 2 * (i + 1) = 2 * i + 1 + 1 from by omega, own_tset _ _ _ (by rw [List.length_set]; omega), own_tset _ _ _ (by omega), ht, own_take1 hc]
      simp [by16]
  refine r_astoreN C (pc' := 5) (Ls' := #[.val (.ref a), .val (.int (0 : Int32)), .val (.int (i32 us.length)), .val (.ref b), .unset]) d14_4 rfl rfl rfl ?_
  refine r_iconst C (pc' := 6) (v := 0) d14_5 rfl rfl ?_
  refine r_istore C (pc' := 8) (Ls' := #[.val (.ref a), .val (.int (0 : Int32)), .val (.int (i32 us.length)), .val (.ref b), .val (.int (0 : Int32))]) d14_6 rfl rfl ?_
  exact loop _ 0 h1 _ rfl (Nat.zero_le _) (List.length_replicate ..) rfl ((Keep.refl h0 []).ext E1) (ol.ext E1) B1 (A.ext E1)
set_option maxRecDepth 65536 in
set_option maxHeartbeats 4000000 in
theorem c_comp0G (l : Launch) (Z : State) (a0 : Array Value) (hw : ∀ d ∈ tables_1, d.before a0 Z = true) (n0 : Nat) (h0 : Heap) (a b : Nat) (ka kb : ClassId) (us : List Nat) (vs : List Value) (A : AV Z h0 a ka .char (us.map vch) (.int 0)) (Bv : AV Z h0 b kb .byte vs (.int 0)) (hv : vs.length = us.length) (hus : ∀ c ∈ us, c < 65536) (ge : n0 ≤ b) (ne : a ≠ b) :
    Con l [] (⟨"java/lang/StringUTF16", "compress", "([CI[BII)I"⟩ : MethodName) jdk_52_method_21_code 7 (some .int) ({ frames := 0, cells := 0, slots := 0, locals := 0 } : Room) Z #[(.ref a), (.int (0 : Int32)), (.ref b), (.int (0 : Int32)), (.int (i32 us.length))] h0 n0 (fun v h => Keep h0 h [b] ∧ (((∀ c ∈ us, c < 256) ∧ v = some (.int (i32 us.length)) ∧ AV Z h b kb .byte ((us.map by8).map Value.int) (.int 0)) ∨ ∃ j c : Nat, us[j]? = some c ∧ 256 ≤ c ∧ v = some (.int (i32 j)))) := by
  refine enter (Ls := #[.val (.ref a), .val (.int (0 : Int32)), .val (.ref b), .val (.int (0 : Int32)), .val (.int (i32 us.length)), .unset, .unset]) pn15 (fun m => by first | (simp [entryFrame, mkF, argsToLocals, Value.category]; done) | rfl) ?_
  intro K C
  have hn : us.length < 2147483648 := by have := A.2; rwa [own_clen] at this
  have loop : ∀ (m i : Nat) (h : Heap) (ws : List Value) (L6 : Slot), us.length - i = m → i ≤ us.length → ws.length = us.length → ws.take i = ((us.take i).map by8).map Value.int → (∀ c ∈ us.take i, c < 256) → Keep h0 h [b] → AV Z h b kb .byte ws (.int 0) → (L6 = .unset ∨ ∃ u, L6 = .val (.int u)) → Run l ({ frames := 0, cells := 0, slots := 0, locals := 0 } : Room) n0 (fun v h _ => Keep h0 h [b] ∧ (((∀ c ∈ us, c < 256) ∧ v = some (.int (i32 us.length)) ∧ AV Z h b kb .byte ((us.map by8).map Value.int) (.int 0)) ∨ ∃ j c : Nat, us[j]? = some c ∧ 256 ≤ c ∧ v = some (.int (i32 j)))) K h 0 0 3 #[.val (.ref a), .val (.int (i32 i)), .val (.ref b), .val (.int (i32 i)), .val (.int (i32 us.length)), .val (.int (i32 i)), L6] [] := by
    intro m
    induction m with
    | zero =>
      intro i h ws L6 hm hi hl ht hs Kp B hL
      obtain rfl : i = us.length := by omega
      refine r_iload C (pc' := 5) d6_3 rfl rfl ?_
      refine r_iload C (pc' := 7) d6_5 rfl rfl ?_
      refine r_icmp_ge_t C (pc' := 44) d6_7 (by decide) (by decide) (fun q => absurd ((i32_lt hn hn).mp q) (Nat.lt_irrefl _)) ?_
      refine r_iload C (pc' := 46) d6_44 rfl rfl ?_
      exact r_ireturn C d6_46 (by decide) (by decide) (Nat.zero_le _) (fun _ _ => ⟨Kp, Or.inl ⟨by rw [List.take_length] at hs; exact hs, rfl, by rw [← hl, List.take_length, hl, List.take_length] at ht; rw [← ht]; exact B⟩⟩)
    | succ m ih =>
      intro i h ws L6 hm hi hl ht hs Kp B hL
      have hlt : i < us.length := by omega
      obtain ⟨c, hc⟩ : ∃ c, us[i]? = some c := ⟨_, List.getElem?_eq_getElem hlt⟩
      have hb := hus c (List.mem_of_getElem? hc)
      refine r_iload C (pc' := 5) d6_3 rfl rfl ?_
      refine r_iload C (pc' := 7) d6_5 rfl rfl ?_
      refine r_icmp_ge_f C (pc' := 10) d6_7 rfl ((i32_lt (by omega) hn).mpr hlt) ?_
      refine r_aloadN C (pc' := 11) d6_10 rfl rfl rfl ?_
      refine r_iloadN C (pc' := 12) d6_11 rfl rfl ?_
      refine r_caloadV C (pc' := 13) (i := i) d6_12 rfl (A.keep Kp (ninS (nn ne) nin0)) rfl (own_cget hc) ?_
      refine r_istore C (pc' := 15) (Ls' := #[.val (.ref a), .val (.int (i32 i)), .val (.ref b), .val (.int (i32 i)), .val (.int (i32 us.length)), .val (.int (i32 i)), .val (.int (i32 c))]) d6_13 rfl (by rcases hL with rfl | ⟨u, rfl⟩ <;> rfl) ?_
      refine r_iload C (pc' := 17) d6_15 rfl rfl ?_
      refine r_sipush C (pc' := 20) (v := (255)) d6_17 rfl rfl ?_
      refine r_icmp_le C (pt := 26) (pc' := 23) d6_20 (by decide) (by decide) rfl ?_ ?_
      · intro q
        have q' : c < 256 := by have := Nat.le_of_not_lt (fun z => q ((i32_lt (a := 255) (by decide) (by omega)).mpr z)); omega
        refine r_aloadN C (pc' := 27) d6_26 rfl rfl rfl ?_
        refine r_iloadN C (pc' := 28) d6_27 rfl rfl ?_
        refine r_iload C (pc' := 30) d6_28 rfl rfl ?_
        refine r_i2b C (pc' := 31) d6_30 rfl ?_
        refine r_bastoreV C (pc' := 32) (i := i) d6_31 rfl B rfl (by omega) (fits_nar_byte _) ge ?_
        intro h2 W B'
        refine r_iinc C (pc' := 35) (v := (1)) (Ls' := #[.val (.ref a), .val (.int ((i32 i) + (1 : Int32))), .val (.ref b), .val (.int (i32 i)), .val (.int (i32 us.length)), .val (.int (i32 i)), .val (.int (i32 c))]) d6_32 rfl rfl rfl rfl ?_
        refine r_iinc C (pc' := 38) (v := (1)) (Ls' := #[.val (.ref a), .val (.int ((i32 i) + (1 : Int32))), .val (.ref b), .val (.int ((i32 i) + (1 : Int32))), .val (.int (i32 us.length)), .val (.int (i32 i)), .val (.int (i32 c))]) d6_35 rfl rfl rfl rfl ?_
        refine r_iinc C (pc' := 41) (v := (1)) (Ls' := #[.val (.ref a), .val (.int ((i32 i) + (1 : Int32))), .val (.ref b), .val (.int ((i32 i) + (1 : Int32))), .val (.int (i32 us.length)), .val (.int ((i32 i) + (1 : Int32))), .val (.int (i32 c))]) d6_38 rfl rfl rfl rfl ?_
        refine r_goto C (pc' := 3) d6_41 (by decide) (by decide) ?_
        rw [show i32 i + (1 : Int32) = i32 (i + 1) from i32_add i 1]
        refine ih (i + 1) h2 _ _ (by omega) hlt (by rw [List.length_set]; exact hl) ?_ ?_ (Kp.wr W (Or.inl (by simp))) B' (Or.inr ⟨_, rfl⟩)
        · rw [own_tset _ _ _ (by omega), ht, own_take1 hc, List.map_append, List.map_append]
          have e := own_bynar c; unfold by8 at e; rw [e]; rfl
        · rw [own_take1 hc]; intro d hd; rcases List.mem_append.mp hd with z | z
          · exact hs d z
          · rw [List.mem_singleton] at z; omega
      · intro q
        have q' : 255 < c := (i32_lt (a := 255) (by decide) (by omega)).mp q
        refine r_iload C (pc' := 25) d6_23 rfl rfl ?_
        exact r_ireturn C d6_25 (by decide) (by decide) (Nat.zero_le _) (fun _ _ => ⟨Kp, Or.inr ⟨i, c, hc, by omega, rfl⟩⟩)
  refine r_iconst C (pc' := 1) (v := 0) d6_0 rfl rfl ?_
  refine r_istore C (pc' := 3) (Ls' := #[.val (.ref a), .val (.int (0 : Int32)), .val (.ref b), .val (.int (0 : Int32)), .val (.int (i32 us.length)), .val (.int (0 : Int32)), .unset]) d6_1 rfl rfl ?_
  refine loop _ 0 h0 _ _ rfl (Nat.zero_le _) hv rfl (by simp) (Keep.refl _ _) Bv (Or.inl rfl)
set_option maxRecDepth 65536 in
set_option maxHeartbeats 4000000 in
theorem c_compG (l : Launch) (Z : State) (a0 : Array Value) (hw : ∀ d ∈ tables_1, d.before a0 Z = true) (n0 : Nat) (h0 : Heap) (su : own_SU Z) (ol : Old Z n0 h0) (hn : n0 ≤ h0.size) (a : Nat) (ka : ClassId) (us : List Nat) (A : AV Z h0 a ka .char (us.map vch) (.int 0)) (hus : ∀ c ∈ us, c < 65536) (hcap : us.length ≤ 2) :
    Con l [] (⟨"java/lang/StringUTF16", "compress", "([CII)[B"⟩ : MethodName) jdk_52_method_16_code 6 (some (.array .byte)) ({ frames := 3, cells := 2, slots := 6, locals := 40 } : Room) Z #[(.ref a), (.int (0 : Int32)), (.int (i32 us.length))] h0 n0 (fun v h => ∃ (b : Nat) (kb : ClassId), v = some (.ref b) ∧ h0.size ≤ b ∧ Keep h0 h [] ∧ (((∀ c ∈ us, c < 256) ∧ AV Z h b kb .byte ((us.map by8).map Value.int) (.int 0)) ∨ AV Z h b kb .byte ((by16 us).map Value.int) (.int 0))) := by
  refine enter (Ls := #[.val (.ref a), .val (.int (0 : Int32)), .val (.int (i32 us.length)), .unset, .unset, .unset]) pn16 (fun m => by first | (simp [entryFrame, mkF, argsToLocals, Value.category]; done) | rfl) ?_
  intro K C
  have hA := A.lt
  refine r_iloadN C (pc' := 1) d5_0 rfl rfl ?_
  refine r_newarrayV C (pc' := 3) (ty := .byte) (m := us.length) (cap := 2) d5_1 rfl rfl (w24 hw) rfl hcap (by decide) (by decide) (by decide) ?_
  intro h1 b kb gb E1 B1
  have x1 := E1.1
  have lb1 := B1.lt
  refine r_astoreN C (pc' := 4) (Ls' := #[.val (.ref a), .val (.int (0 : Int32)), .val (.int (i32 us.length)), .val (.ref b), .unset, .unset]) d5_3 rfl rfl rfl ?_
  refine r_aloadN C (pc' := 5) d5_4 rfl rfl rfl ?_
  refine r_iloadN C (pc' := 6) d5_5 rfl rfl ?_
  refine r_aloadN C (pc' := 7) d5_6 rfl rfl rfl ?_
  refine r_iconst C (pc' := 8) (v := 0) d5_7 rfl rfl ?_
  refine r_iloadN C (pc' := 9) d5_8 rfl rfl ?_
  refine r_callS C (pc' := 12) (argsL := [.ref a, .int (0 : Int32), .ref b, .int (0 : Int32), .int (i32 us.length)]) (c_comp0G l Z a0 hw n0 h1 a b ka kb us _ (A.ext E1) B1 (List.length_replicate ..) hus (by omega) (by omega)) d5_9 rfl (w25 hw) (w26 hw) (w22 hw) (w27 hw) (by decide) pd10 (st := []) rfl rfl rfl (W := 0) (Nat.le_of_eq rfl) (by decide) (by decide) (by decide) (by decide) (cells' := 1) (slots' := 2) rfl rfl ?_
  rintro _ h2 ⟨K2, ⟨hs, rfl, B2⟩ | ⟨j, c, hc, hj, rfl⟩⟩
  ·
    show Run _ _ _ _ _ h2 _ _ 12 #[.val (.ref a), .val (.int (0 : Int32)), .val (.int (i32 us.length)), .val (.ref b), .unset, .unset] [.int (i32 us.length)]
    refine r_istore C (pc' := 14) (Ls' := #[.val (.ref a), .val (.int (0 : Int32)), .val (.int (i32 us.length)), .val (.ref b), .val (.int (i32 us.length)), .unset]) d5_12 rfl rfl ?_
    refine r_iload C (pc' := 16) d5_14 rfl rfl ?_
    refine r_iloadN C (pc' := 17) d5_16 rfl rfl ?_
    refine r_icmp_eq_t C (pc' := 57) d5_17 (by decide) (by decide) rfl ?_
    refine r_aloadN C (pc' := 58) d5_57 rfl rfl rfl ?_
    exact r_areturn C d5_58 rfl rfl (by decide) (by decide) (Nat.zero_le _) (fun _ _ => ⟨b, kb, rfl, by omega, ((Keep.refl h0 []).ext E1).trans K2 (allS (Or.inr (by omega)) all0), Or.inl ⟨hs, B2⟩⟩)
  ·
    show Run _ _ _ _ _ h2 _ _ 12 #[.val (.ref a), .val (.int (0 : Int32)), .val (.int (i32 us.length)), .val (.ref b), .unset, .unset] [.int (i32 j)]
    have hjl := lt_of_get hc
    have hb := hus c (List.mem_of_getElem? hc)
    have x2 := K2.1
    refine r_istore C (pc' := 14) (Ls' := #[.val (.ref a), .val (.int (0 : Int32)), .val (.int (i32 us.length)), .val (.ref b), .val (.int (i32 j)), .unset]) d5_12 rfl rfl ?_
    refine r_iload C (pc' := 16) d5_14 rfl rfl ?_
    refine r_iloadN C (pc' := 17) d5_16 rfl rfl ?_
    refine r_icmp_eq_f C (pc' := 20) d5_17 rfl (fun q => absurd ((i32_eq (by omega) (by omega)).mp q) (by omega)) ?_
    refine r_aloadN C (pc' := 21) d5_20 rfl rfl rfl ?_
    refine r_iloadN C (pc' := 22) d5_21 rfl rfl ?_
    refine r_iloadN C (pc' := 23) d5_22 rfl rfl ?_
    have K3 := ((Keep.refl h0 []).ext E1).trans K2 (allS (Or.inr (by omega)) all0)
    refine r_callS C (pc' := 26) (argsL := [.ref a, .int (0 : Int32), .int (i32 us.length)]) (c_u16toBytes l Z a0 hw n0 h2 su (ol.keep K3 all0) (by omega) a ka us (A.keep K3 nin0) hus hcap) d5_23 rfl (w64 hw) (w65 hw) (w22 hw) (w66 hw) (by decide) pd11 (st := []) rfl rfl rfl (W := 0) (Nat.le_of_eq rfl) (by decide) (by decide) (by decide) (by decide) (cells' := 2) (slots' := 6) rfl rfl ?_
    rintro _ h3 ⟨b2, kb2, rfl, gb2, K4, B4⟩
    show Run _ _ _ _ _ h3 _ _ 26 #[.val (.ref a), .val (.int (0 : Int32)), .val (.int (i32 us.length)), .val (.ref b), .val (.int (i32 j)), .unset] [.ref b2]
    refine r_astore C (pc' := 28) (Ls' := #[.val (.ref a), .val (.int (0 : Int32)), .val (.int (i32 us.length)), .val (.ref b), .val (.int (i32 j)), .val (.ref b2)]) d5_26 rfl rfl rfl ?_
    refine r_aload C (pc' := 30) d5_28 rfl rfl rfl ?_
    refine r_iload C (pc' := 32) d5_30 rfl rfl ?_
    replace K3 := K3.trans K4 all0
    refine r_callS C (pc' := 35) (argsL := [.ref b2, .int (i32 j)]) (c_getChar l Z a0 hw n0 h3 su (ol.keep K3 all0) b2 kb2 us B4 j c hc hb) d5_32 rfl (w80 hw) (w81 hw) (w22 hw) (w82 hw) (by decide) pd5 (st := []) rfl rfl rfl (W := 0) (Nat.le_of_eq rfl) (by decide) (by decide) (by decide) (by decide) (cells' := 2) (slots' := 6) rfl rfl ?_
    rintro _ _ ⟨rfl, rfl⟩
    show Run _ _ _ _ _ _ _ _ 35 #[.val (.ref a), .val (.int (0 : Int32)), .val (.int (i32 us.length)), .val (.ref b), .val (.int (i32 j)), .val (.ref b2)] [.int (i32 c)]
    refine r_sipush C (pc' := 38) (v := (255)) d5_35 rfl rfl ?_
    refine r_icmp_gt_t C (pc' := 54) d5_38 (by decide) (by decide) ((i32_lt (a := 255) (by decide) (by omega)).mpr (by omega)) ?_
    refine r_aload C (pc' := 56) d5_54 rfl rfl rfl ?_
    exact r_areturn C d5_56 rfl rfl (by decide) (by decide) (Nat.zero_le _) (fun _ _ => ⟨b2, kb2, rfl, by omega, K3, Or.inr B4⟩)
set_option maxRecDepth 65536 in
set_option maxHeartbeats 4000000 in
theorem c_coderLen (l : Launch) (Z : State) (a0 : Array Value) (hw : ∀ d ∈ tables_1, d.before a0 Z = true) (n0 : Nat) (h0 : Heap) (b : Nat) (k : ClassId) (vs : List Value) (n : Nat) (A : AV Z h0 b k .byte vs (.int 0)) (hv : vs.length = n) :
    Con l [] (⟨"java/lang/StringUTF16", "coderFromArrayLen", "([BI)B"⟩ : MethodName) jdk_52_method_15_code 2 (some .byte) ({ frames := 0, cells := 0, slots := 0, locals := 0 } : Room) Z #[(.ref b), (.int (i32 n))] h0 n0 (fun v h => v = some (.int 0) ∧ h0 = h) := by
  refine enter (Ls := #[.val (.ref b), .val (.int (i32 n))]) pn17 (fun m => by first | (simp [entryFrame, mkF, argsToLocals, Value.category]; done) | rfl) ?_
  intro K C
  refine r_iloadN C (pc' := 1) d7_0 rfl rfl ?_
  refine r_aloadN C (pc' := 2) d7_1 rfl rfl rfl ?_
  refine r_lengthV C (pc' := 3) (n := n) d7_2 rfl A hv ?_
  refine r_isub C (pc' := 4) d7_3 rfl ?_
  refine r_bipush C (pc' := 6) (v := (31)) d7_4 rfl rfl ?_
  refine r_iushr C (pc' := 7) d7_6 rfl ?_
  refine r_i2b C (pc' := 8) d7_7 rfl ?_
  rw [own_coder0]
  exact r_breturn C d7_8 rfl (by decide) (by decide) (Nat.zero_le _) (fun _ _ => ⟨rfl, rfl⟩)
set_option maxRecDepth 65536 in
set_option maxHeartbeats 4000000 in
theorem c_coderLenU (l : Launch) (Z : State) (a0 : Array Value) (hw : ∀ d ∈ tables_1, d.before a0 Z = true) (n0 : Nat) (h0 : Heap) (b : Nat) (k : ClassId) (vs : List Value) (n : Nat) (A : AV Z h0 b k .byte vs (.int 0)) (hv : vs.length = 2 * n) (hn : 0 < n) (hn2 : n < 64) :
    Con l [] (⟨"java/lang/StringUTF16", "coderFromArrayLen", "([BI)B"⟩ : MethodName) jdk_52_method_15_code 2 (some .byte) ({ frames := 0, cells := 0, slots := 0, locals := 0 } : Room) Z #[(.ref b), (.int (i32 n))] h0 n0 (fun v h => v = some (.int 1) ∧ h0 = h) := by
  refine enter (Ls := #[.val (.ref b), .val (.int (i32 n))]) pn17 (fun m => by first | (simp [entryFrame, mkF, argsToLocals, Value.category]; done) | rfl) ?_
  intro K C
  refine r_iloadN C (pc' := 1) d7_0 rfl rfl ?_
  refine r_aloadN C (pc' := 2) d7_1 rfl rfl rfl ?_
  refine r_lengthV C (pc' := 3) (n := (2 * n)) d7_2 rfl A hv ?_
  refine r_isub C (pc' := 4) d7_3 rfl ?_
  refine r_bipush C (pc' := 6) (v := (31)) d7_4 rfl rfl ?_
  refine r_iushr C (pc' := 7) d7_6 rfl ?_
  refine r_i2b C (pc' := 8) d7_7 rfl ?_
  rw [own_coder1 hn hn2]
  exact r_breturn C d7_8 rfl (by decide) (by decide) (Nat.zero_le _) (fun _ _ => ⟨rfl, rfl⟩)
set_option maxRecDepth 65536 in
set_option maxHeartbeats 4000000 in
theorem c_initCVE (l : Launch) (Z : State) (a0 : Array Value) (hw : ∀ d ∈ tables_1, d.before a0 Z = true) (n0 : Nat) (h0 : Heap) (cc : Int32) (fv : Value) (ss : own_SS Z cc fv) (ol : Old Z n0 h0) (su : own_SU Z) (hn : n0 ≤ h0.size) (a ac : Nat) (kc : ClassId) (us : List Nat) (ge : n0 ≤ a) (E : Exa Z h0 a "java/lang/String") (Fv : Fld Z h0 a "java/lang/String" "value" "[B" .null) (co : Value) (Fc : Fld Z h0 a "java/lang/String" "coder" "B" co) (A : AV Z h0 ac kc .char (us.map vch) (.int 0)) (hus : ∀ c ∈ us, c < 65536) (hcap : us.length ≤ 2) (held : Jvm.Lit.constHeld Z "java/lang/String" 7) (hcw : Jvm.Lit.compactW.before a0 Z = true) :
    ConW l [] (⟨"java/lang/String", "<init>", "([CIILjava/lang/Void;)V"⟩ : MethodName) jdk_42_method_149_code 6 none ({ frames := 4, cells := 2, slots := 6, locals := 57 } : Room) Z #[(.ref a), (.ref ac), (.int (0 : Int32)), (.int (i32 us.length)), .null] h0 n0 (fun vm => EE Z h0 vm) (fun v h vm => v = none ∧ Keep h0 h [a] ∧ (∃ (b : Nat) (k : ClassId), GS Z h a b k us ∧ b ≠ a) ∧ EE Z h vm) := by
  refine enterW (Ls := #[.val (.ref a), .val (.ref ac), .val (.int (0 : Int32)), .val (.int (i32 us.length)), .val .null, .unset]) pn18 (fun m => by first | (simp [entryFrame, mkF, argsToLocals, Value.category]; done) | rfl) ?_
  intro K vm kz B D hkz hV
  have C := B.ctx0 D
  have wS : ∀ a ∈ Bundle.stringAtoms, a.before a0 Z = true := (by intro a ha; simp only [Bundle.stringAtoms, List.mem_cons, List.not_mem_nil, or_false] at ha; rcases ha with rfl | rfl | rfl | rfl | rfl | rfl | rfl <;> first | exact (w7 hw) | exact (w6 hw) | exact (w24 hw) | exact (w34 hw) | exact (w32 hw) | exact (w36 hw) | exact (w37 hw))
  have hl : us.length < 2147483648 := by have := A.2; rwa [own_clen] at this
  have ha := exaLt E
  have EEk : ∀ h', Keep h0 h' [a] → EE Z h' vm := fun h' Kq => by
    rcases hV with i | ⟨i, lt, lb, lk, L, T⟩
    · exact Or.inl i
    · have n1 : lt ≠ a := fun e => by subst e; exact absurd (Fld.inj T.2.2.1 Fv) (by simp)
      have n2 : lb ≠ a := fun e => (Exa.neArv E T.2.2.2.1 (w6 hw)) e.symm
      exact Or.inr ⟨i, lt, lb, lk, L, T.keep Kq (ninS n1 nin0) (ninS n2 nin0)⟩
  refine r_aloadN C (pc' := 1) d3_0 rfl rfl rfl ?_
  refine r_initO C (pc' := 4) (W := 0) d3_1 rfl (w16 hw) (w17 hw) (w18 hw) rfl (by decide) (Nat.le_of_eq rfl) (by decide) ?_
  refine r_iloadN C (pc' := 5) d3_4 rfl rfl ?_
  refine r_if_ne C (pt := 27) (pc' := 8) d3_5 (by decide) (by decide) rfl ?_ ?_
  · intro q
    refine Run.touch ?_
    replace C := B.ctx D
    have hpos : 0 < us.length := Nat.pos_of_ne_zero (fun z => q (by rw [z]; rfl))
    refine r_getS C (pc' := 30) d3_27 rfl (w19 hw) Via.refl (ss.1.ext ol.2) ?_
    refine r_if_eq_f C (pc' := 33) d3_30 rfl ss.2.1 ?_
    refine r_aloadN C (pc' := 34) d3_33 rfl rfl rfl ?_
    refine r_iloadN C (pc' := 35) d3_34 rfl rfl ?_
    refine r_iloadN C (pc' := 36) d3_35 rfl rfl ?_
    refine r_callS C (pc' := 39) (argsL := [.ref ac, .int (0 : Int32), .int (i32 us.length)]) (c_compG l Z a0 hw n0 h0 su ol hn ac kc us A hus hcap) d3_36 rfl (w20 hw) (w21 hw) (w22 hw) (w23 hw) (by decide) pd11 (st := []) rfl rfl rfl (W := 0) (Nat.le_of_eq rfl) (by decide) (by decide) (by decide) (by decide) (cells' := 2) (slots' := 6) rfl rfl ?_
    rintro _ h1 ⟨b, k, rfl, gb, K1, B1⟩
    show Run _ _ _ _ _ h1 _ _ 39 #[.val (.ref a), .val (.ref ac), .val (.int (0 : Int32)), .val (.int (i32 us.length)), .val .null, .unset] [.ref b]
    have x1 := K1.1
    replace E := E.keep K1
    replace Fv := Fv.keep K1 nin0
    replace Fc := Fc.keep K1 nin0
    refine r_astore C (pc' := 41) (Ls' := #[.val (.ref a), .val (.ref ac), .val (.int (0 : Int32)), .val (.int (i32 us.length)), .val .null, .val (.ref b)]) d3_39 rfl rfl rfl ?_
    refine r_aloadN C (pc' := 42) d3_41 rfl rfl rfl ?_
    refine r_aload C (pc' := 44) d3_42 rfl rfl rfl ?_
    refine r_iloadN C (pc' := 45) d3_44 rfl rfl ?_
    rcases B1 with ⟨hs, B1⟩ | B1
    ·
      refine r_callS C (pc' := 48) (argsL := [.ref b, .int (i32 us.length)]) (c_coderLen l Z a0 hw n0 h1 b k _ us.length B1 (own_blen us)) d3_45 rfl (w28 hw) (w29 hw) (w22 hw) (w30 hw) (by decide) pd12 (st := [.ref a]) rfl rfl rfl (W := 1) (Nat.le_of_eq rfl) (by decide) (by decide) (by decide) (by decide) (cells' := 2) (slots' := 6) rfl rfl ?_
      rintro _ _ ⟨rfl, rfl⟩
      show Run _ _ _ _ _ _ _ _ 48 #[.val (.ref a), .val (.ref ac), .val (.int (0 : Int32)), .val (.int (i32 us.length)), .val .null, .val (.ref b)] [.int (0 : Int32), .ref a]
      refine r_putF C (pc' := 51) d3_48 rfl (w31 hw) Via.refl Fc E (Or.inr ⟨(w32 hw), rfl, rfl⟩) (w6 hw) (ty := .byte) (by decide) rfl rfl ge ?_
      intro h2 W2
      replace Fv := Fv.other W2 (Or.inr (sn0 (Z := Z) hw))
      replace Fc := Fc.same W2
      replace E := E.wr W2
      replace B1 := B1.other W2 (nn (by omega))
      refine r_aloadN C (pc' := 52) d3_51 rfl rfl rfl ?_
      refine r_aload C (pc' := 54) d3_52 rfl rfl rfl ?_
      refine r_putF C (pc' := 57) d3_54 rfl (w33 hw) Via.refl Fv E (Or.inr ⟨(w34 hw), rfl, rfl⟩) (w6 hw) (ty := (.array .byte)) (by decide) rfl rfl ge ?_
      intro h3 W3
      replace Fv := Fv.same W3
      replace Fc := Fc.other W3 (Or.inr (sn1 (Z := Z) hw))
      replace E := E.wr W3
      replace B1 := B1.other W3 (nn (by omega))
      have x2 := W2.size
      have x3 := W3.size
      have K3 := (((Keep.refl h0 [a]).trans K1 all0).wr W2 (Or.inl (by simp))).wr W3 (Or.inl (by simp))
      exact r_return C d3_57 (by decide) (by decide) (by omega) (fun vm' hW => ⟨rfl, K3, ⟨b, k, Or.inl ⟨⟨E, Fc, Fv, B1⟩, hs⟩, by omega⟩, EE.at (EEk _ K3) hW⟩)
    ·
      refine r_callS C (pc' := 48) (argsL := [.ref b, .int (i32 us.length)]) (c_coderLenU l Z a0 hw n0 h1 b k _ us.length B1 (by16_len us) hpos (by omega)) d3_45 rfl (w28 hw) (w29 hw) (w22 hw) (w30 hw) (by decide) pd12 (st := [.ref a]) rfl rfl rfl (W := 1) (Nat.le_of_eq rfl) (by decide) (by decide) (by decide) (by decide) (cells' := 2) (slots' := 6) rfl rfl ?_
      rintro _ _ ⟨rfl, rfl⟩
      show Run _ _ _ _ _ _ _ _ 48 #[.val (.ref a), .val (.ref ac), .val (.int (0 : Int32)), .val (.int (i32 us.length)), .val .null, .val (.ref b)] [.int (1 : Int32), .ref a]
      refine r_putF C (pc' := 51) d3_48 rfl (w31 hw) Via.refl Fc E (Or.inr ⟨(w32 hw), rfl, rfl⟩) (w6 hw) (ty := .byte) (by decide) rfl rfl ge ?_
      intro h2 W2
      replace Fv := Fv.other W2 (Or.inr (sn0 (Z := Z) hw))
      replace Fc := Fc.same W2
      replace E := E.wr W2
      replace B1 := B1.other W2 (nn (by omega))
      refine r_aloadN C (pc' := 52) d3_51 rfl rfl rfl ?_
      refine r_aload C (pc' := 54) d3_52 rfl rfl rfl ?_
      refine r_putF C (pc' := 57) d3_54 rfl (w33 hw) Via.refl Fv E (Or.inr ⟨(w34 hw), rfl, rfl⟩) (w6 hw) (ty := (.array .byte)) (by decide) rfl rfl ge ?_
      intro h3 W3
      replace Fv := Fv.same W3
      replace Fc := Fc.other W3 (Or.inr (sn1 (Z := Z) hw))
      replace E := E.wr W3
      replace B1 := B1.other W3 (nn (by omega))
      have x2 := W2.size
      have x3 := W3.size
      have K3 := (((Keep.refl h0 [a]).trans K1 all0).wr W2 (Or.inl (by simp))).wr W3 (Or.inl (by simp))
      exact r_return C d3_57 (by decide) (by decide) (by omega) (fun vm' hW => ⟨rfl, K3, ⟨b, k, Or.inr ⟨⟨E, Fc, Fv, B1⟩, hus⟩, by omega⟩, EE.at (EEk _ K3) hW⟩)
  · intro q
    have hc0 : us = [] := List.eq_nil_of_length_eq_zero ((i32_eq (b := 0) hl (by decide)).mp q)
    subst hc0
    refine r_aloadN C (pc' := 9) d3_8 rfl rfl rfl ?_
    clear EEk
    rcases hV with i0 | ⟨I1, lt, lb, lk, L1, T⟩
    ·
      refine r_ldcS (n := 0) (bs := []) (pc' := 11) B D (by omega) d3_9 rfl (w35 hw) wS ol.2.2 i0 (by simp) held hcw ⟨by decide, by first | decide | rfl⟩ (by decide) (by decide) (by decide) (by decide) (by decide) ?_
      intro vm1 k1 h1 lt lb lk D zk1 E1 T I1 L1 _
      have E1x := E1.1
      replace C := B.ctx0 D
      have x1 := E1.1
      replace E := E.ext E1
      replace Fv := Fv.ext E1
      replace Fc := Fc.ext E1
      refine Run.touch ?_
      replace C := B.ctx D
      have n1 : lt ≠ a := fun e => by subst e; exact absurd (Fld.inj T.2.2.1 Fv) (by simp)
      have n2 : lb ≠ a := fun e => (Exa.neArv E T.2.2.2.1 (w6 hw)) e.symm
      refine r_getF C (pc' := 14) d3_11 rfl (w33 hw) Via.refl T.2.2.1 ?_
      refine r_putF C (pc' := 17) d3_14 rfl (w33 hw) Via.refl Fv E (Or.inr ⟨(w34 hw), rfl, rfl⟩) (w6 hw) (ty := (.array .byte)) (by decide) rfl rfl ge ?_
      intro h2 W2
      replace Fv := Fv.same W2
      replace Fc := Fc.other W2 (Or.inr (sn1 (Z := Z) hw))
      replace E := E.wr W2
      replace T := T.other W2 n1 n2
      refine r_aloadN C (pc' := 18) d3_17 rfl rfl rfl ?_
      refine r_ldcA (pc' := 20) B D d3_18 rfl (w35 hw) L1 ?_
      refine r_getF C (pc' := 23) d3_20 rfl (w31 hw) Via.refl T.2.1 ?_
      refine r_putF C (pc' := 26) d3_23 rfl (w31 hw) Via.refl Fc E (Or.inr ⟨(w32 hw), rfl, rfl⟩) (w6 hw) (ty := .byte) (by decide) rfl rfl ge ?_
      intro h3 W3
      replace Fv := Fv.other W3 (Or.inr (sn0 (Z := Z) hw))
      replace Fc := Fc.same W3
      replace E := E.wr W3
      replace T := T.other W3 n1 n2
      have x2 := W2.size
      have x3 := W3.size
      exact r_return C d3_26 (by decide) (by decide) (by omega) (fun vm' hW => ⟨rfl, (((Keep.refl h0 [a]).ext E1).wr W2 (Or.inl (by simp))).wr W3 (Or.inl (by simp)), ⟨lb, lk, Or.inl ⟨⟨E, Fc, Fv, T.2.2.2⟩, by simp⟩, n2⟩, EE.at (Or.inr ⟨I1, lt, lb, lk, L1, T⟩) hW⟩)
    ·
      have E1 : Ext h0 h0 := ⟨Nat.le_refl _, fun _ _ q => q⟩
      refine r_ldcA (pc' := 11) B D d3_9 rfl (w35 hw) L1 ?_
      refine Run.touch ?_
      replace C := B.ctx D
      have n1 : lt ≠ a := fun e => by subst e; exact absurd (Fld.inj T.2.2.1 Fv) (by simp)
      have n2 : lb ≠ a := fun e => (Exa.neArv E T.2.2.2.1 (w6 hw)) e.symm
      refine r_getF C (pc' := 14) d3_11 rfl (w33 hw) Via.refl T.2.2.1 ?_
      refine r_putF C (pc' := 17) d3_14 rfl (w33 hw) Via.refl Fv E (Or.inr ⟨(w34 hw), rfl, rfl⟩) (w6 hw) (ty := (.array .byte)) (by decide) rfl rfl ge ?_
      intro h2 W2
      replace Fv := Fv.same W2
      replace Fc := Fc.other W2 (Or.inr (sn1 (Z := Z) hw))
      replace E := E.wr W2
      replace T := T.other W2 n1 n2
      refine r_aloadN C (pc' := 18) d3_17 rfl rfl rfl ?_
      refine r_ldcA (pc' := 20) B D d3_18 rfl (w35 hw) L1 ?_
      refine r_getF C (pc' := 23) d3_20 rfl (w31 hw) Via.refl T.2.1 ?_
      refine r_putF C (pc' := 26) d3_23 rfl (w31 hw) Via.refl Fc E (Or.inr ⟨(w32 hw), rfl, rfl⟩) (w6 hw) (ty := .byte) (by decide) rfl rfl ge ?_
      intro h3 W3
      replace Fv := Fv.other W3 (Or.inr (sn0 (Z := Z) hw))
      replace Fc := Fc.same W3
      replace E := E.wr W3
      replace T := T.other W3 n1 n2
      have x2 := W2.size
      have x3 := W3.size
      exact r_return C d3_26 (by decide) (by decide) (by omega) (fun vm' hW => ⟨rfl, (((Keep.refl h0 [a]).ext E1).wr W2 (Or.inl (by simp))).wr W3 (Or.inl (by simp)), ⟨lb, lk, Or.inl ⟨⟨E, Fc, Fv, T.2.2.2⟩, by simp⟩, n2⟩, EE.at (Or.inr ⟨I1, lt, lb, lk, L1, T⟩) hW⟩)
set_option maxRecDepth 65536 in
set_option maxHeartbeats 4000000 in
theorem c_initCE (l : Launch) (Z : State) (a0 : Array Value) (hw : ∀ d ∈ tables_1, d.before a0 Z = true) (n0 : Nat) (h0 : Heap) (cc : Int32) (fv : Value) (ss : own_SS Z cc fv) (ol : Old Z n0 h0) (su : own_SU Z) (hn : n0 ≤ h0.size) (a ac : Nat) (kc : ClassId) (us : List Nat) (ge : n0 ≤ a) (E : Exa Z h0 a "java/lang/String") (Fv : Fld Z h0 a "java/lang/String" "value" "[B" .null) (co : Value) (Fc : Fld Z h0 a "java/lang/String" "coder" "B" co) (A : AV Z h0 ac kc .char (us.map vch) (.int 0)) (hus : ∀ c ∈ us, c < 65536) (hcap : us.length ≤ 2) (held : Jvm.Lit.constHeld Z "java/lang/String" 7) (hcw : Jvm.Lit.compactW.before a0 Z = true) :
    ConW l [] (⟨"java/lang/String", "<init>", "([C)V"⟩ : MethodName) jdk_42_method_3_code 2 none ({ frames := 5, cells := 2, slots := 6, locals := 74 } : Room) Z #[(.ref a), (.ref ac)] h0 n0 (fun vm => EE Z h0 vm) (fun v h vm => v = none ∧ Keep h0 h [a] ∧ (∃ (b : Nat) (k : ClassId), GS Z h a b k us ∧ b ≠ a) ∧ EE Z h vm) := by
  refine enterW (Ls := #[.val (.ref a), .val (.ref ac)]) pn19 (fun m => by first | (simp [entryFrame, mkF, argsToLocals, Value.category]; done) | rfl) ?_
  intro K vm kz B D hkz hV
  have C := B.ctx0 D
  refine r_aloadN C (pc' := 1) d2_0 rfl rfl rfl ?_
  refine r_aloadN C (pc' := 2) d2_1 rfl rfl rfl ?_
  refine r_iconst C (pc' := 3) (v := 0) d2_2 rfl rfl ?_
  refine r_aloadN C (pc' := 4) d2_3 rfl rfl rfl ?_
  refine r_lengthV C (pc' := 5) (n := us.length) d2_4 rfl A (own_clen us) ?_
  refine r_aconst_null C (pc' := 6) d2_5 rfl ?_
  refine Run.touch ?_
  replace C := B.ctx D
  refine r_callIW (rt := none) (pc' := 9) (argsL := [.ref ac, .int (0 : Int32), .int (i32 us.length), .null]) B D (by omega) (c_initCVE l Z a0 hw n0 h0 cc fv ss ol su hn a ac kc us ge E Fv co Fc A hus hcap held hcw) (fun vm' hW => EE.warm hV hW) d2_6 rfl (w12 hw) (w13 hw) (w7 hw) (w15 hw) rfl (by decide) pd13 (st := []) rfl rfl rfl (W := 0) (Nat.le_of_eq rfl) (by decide) (by decide) (by decide) (by decide) (cells' := 2) (slots' := 6) rfl rfl ?_
  rintro _ h1 vm1 ⟨rfl, K1, r, I1⟩ x1 D'
  replace D := D'
  replace C := B.ctx D
  show Run _ _ _ _ _ h1 _ _ 9 #[.val (.ref a), .val (.ref ac)] []
  exact r_return C d2_9 (by decide) (by decide) (Nat.le_refl _) (fun vm' hW => ⟨rfl, K1, r, EE.at I1 hW⟩)
set_option maxRecDepth 65536 in
set_option maxHeartbeats 4000000 in
theorem c_key (l : Launch) (Z : State) (a0 : Array Value) (hw : ∀ d ∈ tables_1, d.before a0 Z = true) (n0 : Nat) (h0 : Heap) (c : Nat) (hc : c < 65536) :
    Con l [] (⟨"com/example/heredity/heredity/CodePointOrderComparePinLaw", "key", "(C)I"⟩ : MethodName) method_4_code 2 (some .int) ({ frames := 0, cells := 0, slots := 0, locals := 0 } : Room) Z #[(.int (i32 c))] h0 n0 (fun v h => v = some (.int (i32 (own_key c))) ∧ h0 = h) := by
  refine enter (Ls := #[.val (.int (i32 c)), .unset]) pn20 (fun m => by first | (simp [entryFrame, mkF, argsToLocals, Value.category]; done) | rfl) ?_
  intro K C
  refine r_iloadN C (pc' := 1) d20_0 rfl rfl ?_
  refine r_istoreN C (pc' := 2) (Ls' := #[.val (.int (i32 c)), .val (.int (i32 c))]) d20_1 rfl rfl ?_
  refine r_iloadN C (pc' := 3) d20_2 rfl rfl ?_
  refine r_ldcI C (pc' := 5) d20_3 rfl (w89 hw) ?_
  refine r_icmp_lt C (pt := 20) (pc' := 8) d20_5 (by decide) (by decide) rfl ?_ ?_
  · intro q
    have q' : c < 55296 := (i32_lt (b := 55296) (by omega) (by decide)).mp q
    refine r_iloadN C (pc' := 21) d20_20 rfl rfl ?_
    refine r_ldcI C (pc' := 23) d20_21 rfl (w90 hw) ?_
    refine r_icmp_lt C (pt := 32) (pc' := 26) d20_23 (by decide) (by decide) rfl ?_ ?_
    · intro r
      have r' : ¬ 57344 ≤ c := by have := (i32_lt (b := 57344) (by omega) (by decide)).mp r; omega
      refine r_iloadN C (pc' := 33) d20_32 rfl rfl ?_
      exact r_ireturn C d20_33 (by decide) (by decide) (Nat.zero_le _) (fun _ _ => ⟨by rw [own_key, if_neg (by omega), if_neg r'], rfl⟩)
    · intro r
      have r' : 57344 ≤ c := Nat.le_of_not_lt (fun z => r ((i32_lt (b := 57344) (by omega) (by decide)).mpr z))
      refine r_iloadN C (pc' := 27) d20_26 rfl rfl ?_
      refine r_sipush C (pc' := 30) (v := (2048)) d20_27 rfl rfl ?_
      refine r_isub C (pc' := 31) d20_30 rfl ?_
      rw [show i32 c - (2048 : Int32) = i32 (c - 2048) from i32_sub (b := 2048) (by omega)]
      exact r_ireturn C d20_31 (by decide) (by decide) (Nat.zero_le _) (fun _ _ => ⟨by rw [own_key, if_neg (by omega), if_pos r'], rfl⟩)
  · intro q
    have q' : ¬ c < 55296 := fun z => q ((i32_lt (b := 55296) (by omega) (by decide)).mpr z)
    refine r_iloadN C (pc' := 9) d20_8 rfl rfl ?_
    refine r_ldcI C (pc' := 11) d20_9 rfl (w131 hw) ?_
    refine r_icmp_gt C (pt := 20) (pc' := 14) d20_11 (by decide) (by decide) rfl ?_ ?_
    · intro s
      have s' : 57343 < c := (i32_lt (a := 57343) (by decide) (by omega)).mp s
      refine r_iloadN C (pc' := 21) d20_20 rfl rfl ?_
      refine r_ldcI C (pc' := 23) d20_21 rfl (w90 hw) ?_
      refine r_icmp_lt C (pt := 32) (pc' := 26) d20_23 (by decide) (by decide) rfl ?_ ?_
      · intro r
        have r' : ¬ 57344 ≤ c := by have := (i32_lt (b := 57344) (by omega) (by decide)).mp r; omega
        refine r_iloadN C (pc' := 33) d20_32 rfl rfl ?_
        exact r_ireturn C d20_33 (by decide) (by decide) (Nat.zero_le _) (fun _ _ => ⟨by rw [own_key, if_neg (by omega), if_neg r'], rfl⟩)
      · intro r
        have r' : 57344 ≤ c := Nat.le_of_not_lt (fun z => r ((i32_lt (b := 57344) (by omega) (by decide)).mpr z))
        refine r_iloadN C (pc' := 27) d20_26 rfl rfl ?_
        refine r_sipush C (pc' := 30) (v := (2048)) d20_27 rfl rfl ?_
        refine r_isub C (pc' := 31) d20_30 rfl ?_
        rw [show i32 c - (2048 : Int32) = i32 (c - 2048) from i32_sub (b := 2048) (by omega)]
        exact r_ireturn C d20_31 (by decide) (by decide) (Nat.zero_le _) (fun _ _ => ⟨by rw [own_key, if_neg (by omega), if_pos r'], rfl⟩)
    · intro s
      have s' : ¬ 57343 < c := fun z => s ((i32_lt (a := 57343) (by decide) (by omega)).mpr z)
      refine r_iloadN C (pc' := 15) d20_14 rfl rfl ?_
      refine r_sipush C (pc' := 18) (v := (8192)) d20_15 rfl rfl ?_
      refine r_iadd C (pc' := 19) d20_18 rfl ?_
      rw [show i32 c + (8192 : Int32) = i32 (c + 8192) from i32_add c 8192]
      exact r_ireturn C d20_19 (by decide) (by decide) (Nat.zero_le _) (fun _ _ => ⟨by rw [own_key, if_pos (by omega)], rfl⟩)
set_option maxRecDepth 65536 in
set_option maxHeartbeats 4000000 in
theorem c_cmpKeys (l : Launch) (Z : State) (a0 : Array Value) (hw : ∀ d ∈ tables_1, d.before a0 Z = true) (n0 : Nat) (h0 : Heap) (x y : Nat) (hx : x < 65536) (hy : y < 65536) :
    Con l [] (⟨"com/example/heredity/heredity/CodePointOrderComparePinLaw", "cmpKeys", "(CC)I"⟩ : MethodName) method_5_code 4 (some .int) ({ frames := 1, cells := 0, slots := 0, locals := 13 } : Room) Z #[(.int (i32 x)), (.int (i32 y))] h0 n0 (fun v h => v = some (.int (own_ck x y)) ∧ h0 = h) := by
  refine enter (Ls := #[.val (.int (i32 x)), .val (.int (i32 y)), .unset, .unset]) pn21 (fun m => by first | (simp [entryFrame, mkF, argsToLocals, Value.category]; done) | rfl) ?_
  intro K C
  have kx : own_key x < 100000 := by unfold own_key; split <;> (try split) <;> omega
  have ky : own_key y < 100000 := by unfold own_key; split <;> (try split) <;> omega
  refine r_iloadN C (pc' := 1) d19_0 rfl rfl ?_
  refine r_callS C (pc' := 4) (argsL := [.int (i32 x)]) (c_key l Z a0 hw n0 h0 x hx) d19_1 rfl (w86 hw) (w87 hw) (w3 hw) (w88 hw) (by decide) pd14 (st := []) rfl rfl rfl (W := 0) (Nat.le_of_eq rfl) (by decide) (by decide) (by decide) (by decide) (cells' := 0) (slots' := 0) rfl rfl ?_
  rintro _ _ ⟨rfl, rfl⟩
  show Run _ _ _ _ _ _ _ _ 4 #[.val (.int (i32 x)), .val (.int (i32 y)), .unset, .unset] [.int (i32 (own_key x))]
  refine r_istoreN C (pc' := 5) (Ls' := #[.val (.int (i32 x)), .val (.int (i32 y)), .val (.int (i32 (own_key x))), .unset]) d19_4 rfl rfl ?_
  refine r_iloadN C (pc' := 6) d19_5 rfl rfl ?_
  refine r_callS C (pc' := 9) (argsL := [.int (i32 y)]) (c_key l Z a0 hw n0 _ y hy) d19_6 rfl (w86 hw) (w87 hw) (w3 hw) (w88 hw) (by decide) pd14 (st := []) rfl rfl rfl (W := 0) (Nat.le_of_eq rfl) (by decide) (by decide) (by decide) (by decide) (cells' := 0) (slots' := 0) rfl rfl ?_
  rintro _ _ ⟨rfl, rfl⟩
  show Run _ _ _ _ _ _ _ _ 9 #[.val (.int (i32 x)), .val (.int (i32 y)), .val (.int (i32 (own_key x))), .unset] [.int (i32 (own_key y))]
  refine r_istoreN C (pc' := 10) (Ls' := #[.val (.int (i32 x)), .val (.int (i32 y)), .val (.int (i32 (own_key x))), .val (.int (i32 (own_key y)))]) d19_9 rfl rfl ?_
  refine r_iloadN C (pc' := 11) d19_10 rfl rfl ?_
  refine r_iloadN C (pc' := 12) d19_11 rfl rfl ?_
  refine r_icmp_ge C (pt := 17) (pc' := 15) d19_12 (by decide) (by decide) rfl ?_ ?_
  · intro q
    have q' : ¬ own_key x < own_key y := fun z => q ((i32_lt (by omega) (by omega)).mpr z)
    refine r_iloadN C (pc' := 18) d19_17 rfl rfl ?_
    refine r_iloadN C (pc' := 19) d19_18 rfl rfl ?_
    refine r_icmp_le C (pt := 24) (pc' := 22) d19_19 (by decide) (by decide) rfl ?_ ?_
    · intro r
      have r' : ¬ own_key y < own_key x := fun z => r ((i32_lt (by omega) (by omega)).mpr z)
      refine r_iconst C (pc' := 25) (v := 0) d19_24 rfl rfl ?_
      exact r_ireturn C d19_25 (by decide) (by decide) (Nat.zero_le _) (fun _ _ => ⟨by rw [own_ck, if_neg q', if_neg r'], rfl⟩)
    · intro r
      have r' : own_key y < own_key x := (i32_lt (by omega) (by omega)).mp r
      refine r_iconst C (pc' := 23) (v := 1) d19_22 rfl rfl ?_
      exact r_ireturn C d19_23 (by decide) (by decide) (Nat.zero_le _) (fun _ _ => ⟨by rw [own_ck, if_neg q', if_pos r'], rfl⟩)
  · intro q
    have q' : own_key x < own_key y := (i32_lt (by omega) (by omega)).mp q
    refine r_iconst C (pc' := 16) (v := (-1)) d19_15 rfl rfl ?_
    exact r_ireturn C d19_16 (by decide) (by decide) (Nat.zero_le _) (fun _ _ => ⟨by rw [own_ck, if_pos q'], rfl⟩)
set_option maxRecDepth 65536 in
set_option maxHeartbeats 4000000 in
theorem c_min (l : Launch) (Z : State) (a0 : Array Value) (hw : ∀ d ∈ tables_1, d.before a0 Z = true) (n0 : Nat) (h0 : Heap) (x y : Nat) (hx : x < 2147483648) (hy : y < 2147483648) :
    Con l [] (⟨"java/lang/Math", "min", "(II)I"⟩ : MethodName) jdk_29_method_69_code 2 (some .int) ({ frames := 0, cells := 0, slots := 0, locals := 0 } : Room) Z #[(.int (i32 x)), (.int (i32 y))] h0 n0 (fun v h => v = some (.int (i32 (min x y))) ∧ h0 = h) := by
  refine enter (Ls := #[.val (.int (i32 x)), .val (.int (i32 y))]) pn22 (fun m => by first | (simp [entryFrame, mkF, argsToLocals, Value.category]; done) | rfl) ?_
  intro K C
  refine r_iloadN C (pc' := 1) d9_0 rfl rfl ?_
  refine r_iloadN C (pc' := 2) d9_1 rfl rfl ?_
  refine r_icmp_gt C (pt := 9) (pc' := 5) d9_2 (by decide) (by decide) rfl ?_ ?_
  · intro q
    have q' : y < x := (i32_lt hy hx).mp q
    refine r_iloadN C (pc' := 10) d9_9 rfl rfl ?_
    exact r_ireturn C d9_10 (by decide) (by decide) (Nat.zero_le _) (fun _ _ => ⟨by rw [Nat.min_eq_right (by omega)], rfl⟩)
  · intro q
    have q' : ¬ y < x := fun z => q ((i32_lt hy hx).mpr z)
    refine r_iloadN C (pc' := 6) d9_5 rfl rfl ?_
    refine r_goto C (pc' := 10) d9_6 (by decide) (by decide) ?_
    exact r_ireturn C d9_10 (by decide) (by decide) (Nat.zero_le _) (fun _ _ => ⟨by rw [Nat.min_eq_left (by omega)], rfl⟩)
set_option maxRecDepth 65536 in
set_option maxHeartbeats 4000000 in
theorem c_icomp (l : Launch) (Z : State) (a0 : Array Value) (hw : ∀ d ∈ tables_1, d.before a0 Z = true) (n0 : Nat) (h0 : Heap) (x y : Nat) (hx : x < 2147483648) (hy : y < 2147483648) :
    Con l [] (⟨"java/lang/Integer", "compare", "(II)I"⟩ : MethodName) jdk_33_method_40_code 2 (some .int) ({ frames := 0, cells := 0, slots := 0, locals := 0 } : Room) Z #[(.int (i32 x)), (.int (i32 y))] h0 n0 (fun v h => v = some (.int (own_ic x y)) ∧ h0 = h) := by
  refine enter (Ls := #[.val (.int (i32 x)), .val (.int (i32 y))]) pn23 (fun m => by first | (simp [entryFrame, mkF, argsToLocals, Value.category]; done) | rfl) ?_
  intro K C
  refine r_iloadN C (pc' := 1) d13_0 rfl rfl ?_
  refine r_iloadN C (pc' := 2) d13_1 rfl rfl ?_
  refine r_icmp_ge C (pt := 9) (pc' := 5) d13_2 (by decide) (by decide) rfl ?_ ?_
  · intro q
    have q' : ¬ x < y := fun z => q ((i32_lt hx hy).mpr z)
    refine r_iloadN C (pc' := 10) d13_9 rfl rfl ?_
    refine r_iloadN C (pc' := 11) d13_10 rfl rfl ?_
    refine r_icmp_ne C (pt := 18) (pc' := 14) d13_11 (by decide) (by decide) rfl ?_ ?_
    · intro r
      have r' : ¬ x = y := fun z => r (by rw [z])
      refine r_iconst C (pc' := 19) (v := 1) d13_18 rfl rfl ?_
      exact r_ireturn C d13_19 (by decide) (by decide) (Nat.zero_le _) (fun _ _ => ⟨by rw [own_ic, if_neg q', if_neg r'], rfl⟩)
    · intro r
      have r' : x = y := (i32_eq hx hy).mp r
      refine r_iconst C (pc' := 15) (v := 0) d13_14 rfl rfl ?_
      refine r_goto C (pc' := 19) d13_15 (by decide) (by decide) ?_
      exact r_ireturn C d13_19 (by decide) (by decide) (Nat.zero_le _) (fun _ _ => ⟨by rw [own_ic, if_neg q', if_pos r'], rfl⟩)
  · intro q
    have q' : x < y := (i32_lt hx hy).mp q
    refine r_iconst C (pc' := 6) (v := (-1)) d13_5 rfl rfl ?_
    refine r_goto C (pc' := 19) d13_6 (by decide) (by decide) ?_
    exact r_ireturn C d13_19 (by decide) (by decide) (Nat.zero_le _) (fun _ _ => ⟨by rw [own_ic, if_pos q'], rfl⟩)
set_option maxRecDepth 65536 in
set_option maxHeartbeats 4000000 in
theorem c_isSur (l : Launch) (Z : State) (a0 : Array Value) (hw : ∀ d ∈ tables_1, d.before a0 Z = true) (n0 : Nat) (h0 : Heap) (c : Nat) (hc : c < 65536) :
    Con l [] (⟨"java/lang/Character", "isSurrogate", "(C)Z"⟩ : MethodName) jdk_89_method_16_code 1 (some .boolean) ({ frames := 0, cells := 0, slots := 0, locals := 0 } : Room) Z #[(.int (i32 c))] h0 n0 (fun v h => v = some (.int (if 55296 ≤ c ∧ c < 57344 then 1 else 0)) ∧ h0 = h) := by
  refine enter (Ls := #[.val (.int (i32 c))]) pn24 (fun m => by first | (simp [entryFrame, mkF, argsToLocals, Value.category]; done) | rfl) ?_
  intro K C
  refine r_iloadN C (pc' := 1) d29_0 rfl rfl ?_
  refine r_ldcI C (pc' := 3) d29_1 rfl (w125 hw) ?_
  refine r_icmp_lt C (pt := 16) (pc' := 6) d29_3 (by decide) (by decide) rfl ?_ ?_
  · intro q
    have q' : c < 55296 := (i32_lt (b := 55296) (by omega) (by decide)).mp q
    refine r_iconst C (pc' := 17) (v := 0) d29_16 rfl rfl ?_
    exact r_zreturn C d29_17 rfl (by decide) (by decide) (Nat.zero_le _) (fun _ _ => ⟨by rw [if_neg (by omega)], rfl⟩)
  · intro q
    have q' : ¬ c < 55296 := fun z => q ((i32_lt (b := 55296) (by omega) (by decide)).mpr z)
    refine r_iloadN C (pc' := 7) d29_6 rfl rfl ?_
    refine r_ldcI C (pc' := 9) d29_7 rfl (w132 hw) ?_
    refine r_icmp_ge C (pt := 16) (pc' := 12) d29_9 (by decide) (by decide) rfl ?_ ?_
    · intro r
      have r' : ¬ c < 57344 := fun z => r ((i32_lt (b := 57344) (by omega) (by decide)).mpr z)
      refine r_iconst C (pc' := 17) (v := 0) d29_16 rfl rfl ?_
      exact r_zreturn C d29_17 rfl (by decide) (by decide) (Nat.zero_le _) (fun _ _ => ⟨by rw [if_neg (by omega)], rfl⟩)
    · intro r
      have r' : c < 57344 := (i32_lt (b := 57344) (by omega) (by decide)).mp r
      refine r_iconst C (pc' := 13) (v := 1) d29_12 rfl rfl ?_
      refine r_goto C (pc' := 17) d29_13 (by decide) (by decide) ?_
      exact r_zreturn C d29_17 rfl (by decide) (by decide) (Nat.zero_le _) (fun _ _ => ⟨by rw [if_pos (by omega)], rfl⟩)
set_option maxRecDepth 65536 in
set_option maxHeartbeats 4000000 in
theorem c_rank (l : Launch) (Z : State) (a0 : Array Value) (hw : ∀ d ∈ tables_1, d.before a0 Z = true) (n0 : Nat) (h0 : Heap) (c : Nat) (hc : c < 65536) :
    Con l [] (⟨"com/example/heredity/heredity/CodePointOrder", "rank", "(C)I"⟩ : MethodName) prog_1_method_3_code 1 (some .int) ({ frames := 1, cells := 0, slots := 0, locals := 12 } : Room) Z #[(.int (i32 c))] h0 n0 (fun v h => v = some (.int (i32 (own_rank c))) ∧ h0 = h) := by
  refine enter (Ls := #[.val (.int (i32 c))]) pn25 (fun m => by first | (simp [entryFrame, mkF, argsToLocals, Value.category]; done) | rfl) ?_
  intro K C
  refine r_iloadN C (pc' := 1) d28_0 rfl rfl ?_
  refine r_callS C (pc' := 4) (argsL := [.int (i32 c)]) (c_isSur l Z a0 hw n0 h0 c hc) d28_1 rfl (w121 hw) (w122 hw) (w123 hw) (w124 hw) (by decide) pd15 (st := []) rfl rfl rfl (W := 0) (Nat.le_of_eq rfl) (by decide) (by decide) (by decide) (by decide) (cells' := 0) (slots' := 0) rfl rfl ?_
  rintro _ _ ⟨rfl, rfl⟩
  show Run _ _ _ _ _ _ _ _ 4 #[.val (.int (i32 c))] [.int (if 55296 ≤ c ∧ c < 57344 then (1 : Int32) else 0)]
  refine r_if_eq C (pt := 14) (pc' := 7) d28_4 (by decide) (by decide) rfl ?_ ?_
  · intro q
    have q' : ¬ (55296 ≤ c ∧ c < 57344) := fun p => by rw [if_pos p] at q; exact absurd q (by decide)
    refine r_iloadN C (pc' := 15) d28_14 rfl rfl ?_
    exact r_ireturn C d28_15 (by decide) (by decide) (Nat.zero_le _) (fun _ _ => ⟨by rw [own_rank, if_neg q'], rfl⟩)
  · intro q
    have q' : 55296 ≤ c ∧ c < 57344 := Decidable.byContradiction fun p => q (if_neg p)
    refine r_iloadN C (pc' := 8) d28_7 rfl rfl ?_
    refine r_ldcI C (pc' := 10) d28_8 rfl (w133 hw) ?_
    refine r_iadd C (pc' := 11) d28_10 rfl ?_
    refine r_goto C (pc' := 15) d28_11 (by decide) (by decide) ?_
    rw [show i32 c + (65536 : Int32) = i32 (c + 65536) from i32_add c 65536]
    exact r_ireturn C d28_15 (by decide) (by decide) (Nat.zero_le _) (fun _ _ => ⟨by rw [own_rank, if_pos q'], rfl⟩)
set_option maxRecDepth 65536 in
set_option maxHeartbeats 4000000 in
theorem c_compare (l : Launch) (Z : State) (a0 : Array Value) (hw : ∀ d ∈ tables_1, d.before a0 Z = true) (n0 : Nat) (h0 : Heap) (cc : Int32) (fv : Value) (ss : own_SS Z cc fv) (ol : Old Z n0 h0) (su : own_SU Z) (a b : Nat) (k : ClassId) (us : List Nat) (G : GS Z h0 a b k us) (a2 b2 : Nat) (k2 : ClassId) (vs : List Nat) (G2 : GS Z h0 a2 b2 k2 vs) (hu : us.length < 2147483648) (hv : vs.length < 2147483648) (hus : ∀ c ∈ us, c < 65536) (hvs : ∀ c ∈ vs, c < 65536) :
    Con l [] (⟨"com/example/heredity/heredity/CodePointOrder", "compare", "(Ljava/lang/String;Ljava/lang/String;)I"⟩ : MethodName) prog_1_method_2_code 6 (some .int) ({ frames := 5, cells := 0, slots := 0, locals := 66 } : Room) Z #[(.ref a), (.ref a2)] h0 n0 (fun v h => v = some (.int (own_cmp us.length vs.length us vs)) ∧ h0 = h) := by
  refine enter (Ls := #[.val (.ref a), .val (.ref a2), .unset, .unset, .unset, .unset]) pn26 (fun m => by first | (simp [entryFrame, mkF, argsToLocals, Value.category]; done) | rfl) ?_
  intro K C
  refine r_aloadN C (pc' := 1) d10_0 rfl rfl rfl ?_
  refine r_callV C (pc' := 4) (argsL := []) (c_lengthG l Z a0 hw n0 _ cc fv ss ol a b k us G) G.exa d10_1 rfl (w49 hw) (w50 hw) (nfSel (z := ({ cls := "java/lang/String", name := "length", desc := "()I" } : Jvm.MethodName)) (w52 hw)) (w52 hw) (w51 hw) (w7 hw) (w53 hw) (by decide) pd16 (st := []) rfl rfl rfl (W := 0) (Nat.le_of_eq rfl) (by decide) (by decide) (by decide) (by decide) (cells' := 0) (slots' := 0) rfl rfl ?_
  rintro _ _ ⟨rfl, rfl⟩
  show Run _ _ _ _ _ _ _ _ 4 #[.val (.ref a), .val (.ref a2), .unset, .unset, .unset, .unset] [.int (i32 us.length)]
  refine r_aloadN C (pc' := 5) d10_4 rfl rfl rfl ?_
  refine r_callV C (pc' := 8) (argsL := []) (c_lengthG l Z a0 hw n0 _ cc fv ss ol a2 b2 k2 vs G2) G2.exa d10_5 rfl (w49 hw) (w50 hw) (nfSel (z := ({ cls := "java/lang/String", name := "length", desc := "()I" } : Jvm.MethodName)) (w52 hw)) (w52 hw) (w51 hw) (w7 hw) (w53 hw) (by decide) pd16 (st := [.int (i32 us.length)]) rfl rfl rfl (W := 1) (Nat.le_of_eq rfl) (by decide) (by decide) (by decide) (by decide) (cells' := 0) (slots' := 0) rfl rfl ?_
  rintro _ _ ⟨rfl, rfl⟩
  show Run _ _ _ _ _ _ _ _ 8 #[.val (.ref a), .val (.ref a2), .unset, .unset, .unset, .unset] [.int (i32 vs.length), .int (i32 us.length)]
  refine r_callS C (pc' := 11) (argsL := [.int (i32 us.length), .int (i32 vs.length)]) (c_min l Z a0 hw n0 _ _ _ hu hv) d10_8 rfl (w59 hw) (w42 hw) (w43 hw) (w44 hw) (by decide) pd17 (st := []) rfl rfl rfl (W := 0) (Nat.le_of_eq rfl) (by decide) (by decide) (by decide) (by decide) (cells' := 0) (slots' := 0) rfl rfl ?_
  rintro _ _ ⟨rfl, rfl⟩
  show Run _ _ _ _ _ _ _ _ 11 #[.val (.ref a), .val (.ref a2), .unset, .unset, .unset, .unset] [.int (i32 (min us.length vs.length))]
  have loop : ∀ (m i : Nat) (L4 L5 : Slot), min us.length vs.length - i = m → i ≤ min us.length vs.length → own_cmp us.length vs.length (us.drop i) (vs.drop i) = own_cmp us.length vs.length us vs → (L4 = .unset ∨ ∃ u, L4 = .val (.int u)) → (L5 = .unset ∨ ∃ u, L5 = .val (.int u)) → Run l ({ frames := 5, cells := 0, slots := 0, locals := 66 } : Room) n0 (fun v h _ => v = some (.int (own_cmp us.length vs.length us vs)) ∧ h0 = h) K h0 0 0 14 #[.val (.ref a), .val (.ref a2), .val (.int (i32 (min us.length vs.length))), .val (.int (i32 i)), L4, L5] [] := by
    intro m
    induction m with
    | zero =>
      intro i L4 L5 hm hi ef h4 h5
      refine r_iloadN C (pc' := 15) d10_14 rfl rfl ?_
      refine r_iloadN C (pc' := 16) d10_15 rfl rfl ?_
      refine r_icmp_ge_t C (pc' := 60) d10_16 (by decide) (by decide) (fun q => absurd ((i32_lt (by omega) (by omega)).mp q) (by omega)) ?_
      refine r_aloadN C (pc' := 61) d10_60 rfl rfl rfl ?_
      refine r_callV C (pc' := 64) (argsL := []) (c_lengthG l Z a0 hw n0 _ cc fv ss ol a b k us G) G.exa d10_61 rfl (w49 hw) (w50 hw) (nfSel (z := ({ cls := "java/lang/String", name := "length", desc := "()I" } : Jvm.MethodName)) (w52 hw)) (w52 hw) (w51 hw) (w7 hw) (w53 hw) (by decide) pd16 (st := []) rfl rfl rfl (W := 0) (Nat.le_of_eq rfl) (by decide) (by decide) (by decide) (by decide) (cells' := 0) (slots' := 0) rfl rfl ?_
      rintro _ _ ⟨rfl, rfl⟩
      show Run _ _ _ _ _ _ _ _ 64 #[.val (.ref a), .val (.ref a2), .val (.int (i32 (min us.length vs.length))), .val (.int (i32 i)), L4, L5] [.int (i32 us.length)]
      refine r_aloadN C (pc' := 65) d10_64 rfl rfl rfl ?_
      refine r_callV C (pc' := 68) (argsL := []) (c_lengthG l Z a0 hw n0 _ cc fv ss ol a2 b2 k2 vs G2) G2.exa d10_65 rfl (w49 hw) (w50 hw) (nfSel (z := ({ cls := "java/lang/String", name := "length", desc := "()I" } : Jvm.MethodName)) (w52 hw)) (w52 hw) (w51 hw) (w7 hw) (w53 hw) (by decide) pd16 (st := [.int (i32 us.length)]) rfl rfl rfl (W := 1) (Nat.le_of_eq rfl) (by decide) (by decide) (by decide) (by decide) (cells' := 0) (slots' := 0) rfl rfl ?_
      rintro _ _ ⟨rfl, rfl⟩
      show Run _ _ _ _ _ _ _ _ 68 #[.val (.ref a), .val (.ref a2), .val (.int (i32 (min us.length vs.length))), .val (.int (i32 i)), L4, L5] [.int (i32 vs.length), .int (i32 us.length)]
      refine r_callS C (pc' := 71) (argsL := [.int (i32 us.length), .int (i32 vs.length)]) (c_icomp l Z a0 hw n0 _ _ _ hu hv) d10_68 rfl (w60 hw) (w61 hw) (w62 hw) (w63 hw) (by decide) pd17 (st := []) rfl rfl rfl (W := 0) (Nat.le_of_eq rfl) (by decide) (by decide) (by decide) (by decide) (cells' := 0) (slots' := 0) rfl rfl ?_
      rintro _ _ ⟨rfl, rfl⟩
      show Run _ _ _ _ _ _ _ _ 71 #[.val (.ref a), .val (.ref a2), .val (.int (i32 (min us.length vs.length))), .val (.int (i32 i)), L4, L5] [.int (own_ic us.length vs.length)]
      exact r_ireturn C d10_71 (by decide) (by decide) (Nat.zero_le _) (fun _ _ => ⟨by rw [← ef]; exact (own_cmp_end _ _ us vs i (by omega)).symm ▸ rfl, rfl⟩)
    | succ m ih =>
      intro i L4 L5 hm hi ef h4 h5
      have h1 : i < us.length := by omega
      have h2 : i < vs.length := by omega
      obtain ⟨u, hu'⟩ : ∃ c, us[i]? = some c := ⟨_, List.getElem?_eq_getElem h1⟩
      obtain ⟨v, hv'⟩ : ∃ c, vs[i]? = some c := ⟨_, List.getElem?_eq_getElem h2⟩
      have bu := hus u (List.mem_of_getElem? hu')
      have bv := hvs v (List.mem_of_getElem? hv')
      rw [own_drop1 hu', own_drop1 hv', own_cmp] at ef
      refine r_iloadN C (pc' := 15) d10_14 rfl rfl ?_
      refine r_iloadN C (pc' := 16) d10_15 rfl rfl ?_
      refine r_icmp_ge_f C (pc' := 19) d10_16 rfl ((i32_lt (by omega) (by omega)).mpr (by omega)) ?_
      refine r_aloadN C (pc' := 20) d10_19 rfl rfl rfl ?_
      refine r_iloadN C (pc' := 21) d10_20 rfl rfl ?_
      refine r_callV C (pc' := 24) (argsL := [.int (i32 i)]) (c_charAtG l Z a0 hw n0 _ cc fv ss ol su a b k us G i u hu') G.exa d10_21 rfl (w91 hw) (w92 hw) (nfSel (z := ({ cls := "java/lang/String", name := "charAt", desc := "(I)C" } : Jvm.MethodName)) (w94 hw)) (w94 hw) (w93 hw) (w7 hw) (w95 hw) (by decide) pd18 (st := []) rfl rfl rfl (W := 0) (Nat.le_of_eq rfl) (by decide) (by decide) (by decide) (by decide) (cells' := 0) (slots' := 0) rfl rfl ?_
      rintro _ _ ⟨rfl, rfl⟩
      show Run _ _ _ _ _ _ _ _ 24 #[.val (.ref a), .val (.ref a2), .val (.int (i32 (min us.length vs.length))), .val (.int (i32 i)), L4, L5] [.int (i32 u)]
      refine r_istore C (pc' := 26) (Ls' := #[.val (.ref a), .val (.ref a2), .val (.int (i32 (min us.length vs.length))), .val (.int (i32 i)), .val (.int (i32 u)), L5]) d10_24 rfl (by rcases h4 with rfl | ⟨u4, rfl⟩ <;> rcases h5 with rfl | ⟨u5, rfl⟩ <;> rfl) ?_
      refine r_aloadN C (pc' := 27) d10_26 rfl rfl rfl ?_
      refine r_iloadN C (pc' := 28) d10_27 rfl rfl ?_
      refine r_callV C (pc' := 31) (argsL := [.int (i32 i)]) (c_charAtG l Z a0 hw n0 _ cc fv ss ol su a2 b2 k2 vs G2 i v hv') G2.exa d10_28 rfl (w91 hw) (w92 hw) (nfSel (z := ({ cls := "java/lang/String", name := "charAt", desc := "(I)C" } : Jvm.MethodName)) (w94 hw)) (w94 hw) (w93 hw) (w7 hw) (w95 hw) (by decide) pd18 (st := []) rfl rfl rfl (W := 0) (Nat.le_of_eq rfl) (by decide) (by decide) (by decide) (by decide) (cells' := 0) (slots' := 0) rfl rfl ?_
      rintro _ _ ⟨rfl, rfl⟩
      show Run _ _ _ _ _ _ _ _ 31 #[.val (.ref a), .val (.ref a2), .val (.int (i32 (min us.length vs.length))), .val (.int (i32 i)), .val (.int (i32 u)), L5] [.int (i32 v)]
      refine r_istore C (pc' := 33) (Ls' := #[.val (.ref a), .val (.ref a2), .val (.int (i32 (min us.length vs.length))), .val (.int (i32 i)), .val (.int (i32 u)), .val (.int (i32 v))]) d10_31 rfl (by rcases h4 with rfl | ⟨u4, rfl⟩ <;> rcases h5 with rfl | ⟨u5, rfl⟩ <;> rfl) ?_
      refine r_iload C (pc' := 35) d10_33 rfl rfl ?_
      refine r_iload C (pc' := 37) d10_35 rfl rfl ?_
      refine r_icmp_eq C (pt := 54) (pc' := 40) d10_37 (by decide) (by decide) rfl ?_ ?_
      · intro q
        rw [if_pos ((i32_eq (by omega) (by omega)).mp q)] at ef
        refine r_iinc C (pc' := 57) (v := (1)) (Ls' := #[.val (.ref a), .val (.ref a2), .val (.int (i32 (min us.length vs.length))), .val (.int ((i32 i) + (1 : Int32))), .val (.int (i32 u)), .val (.int (i32 v))]) d10_54 rfl rfl rfl rfl ?_
        refine r_goto C (pc' := 14) d10_57 (by decide) (by decide) ?_
        rw [show i32 i + (1 : Int32) = i32 (i + 1) from i32_add i 1]
        exact ih (i + 1) _ _ (by omega) (by omega) ef (Or.inr ⟨_, rfl⟩) (Or.inr ⟨_, rfl⟩)
      · intro q
        rw [if_neg (fun z => q (by rw [z]))] at ef
        refine r_iload C (pc' := 42) d10_40 rfl rfl ?_
        have r1 : own_rank u < 200000 := by unfold own_rank; split <;> omega
        have r2 : own_rank v < 200000 := by unfold own_rank; split <;> omega
        refine r_callS C (pc' := 45) (argsL := [.int (i32 u)]) (c_rank l Z a0 hw n0 _ u bu) d10_42 rfl (w118 hw) (w119 hw) (w47 hw) (w120 hw) (by decide) pd14 (st := []) rfl rfl rfl (W := 0) (Nat.le_of_eq rfl) (by decide) (by decide) (by decide) (by decide) (cells' := 0) (slots' := 0) rfl rfl ?_
        rintro _ _ ⟨rfl, rfl⟩
        show Run _ _ _ _ _ _ _ _ 45 #[.val (.ref a), .val (.ref a2), .val (.int (i32 (min us.length vs.length))), .val (.int (i32 i)), .val (.int (i32 u)), .val (.int (i32 v))] [.int (i32 (own_rank u))]
        refine r_iload C (pc' := 47) d10_45 rfl rfl ?_
        refine r_callS C (pc' := 50) (argsL := [.int (i32 v)]) (c_rank l Z a0 hw n0 _ v bv) d10_47 rfl (w118 hw) (w119 hw) (w47 hw) (w120 hw) (by decide) pd14 (st := [.int (i32 (own_rank u))]) rfl rfl rfl (W := 1) (Nat.le_of_eq rfl) (by decide) (by decide) (by decide) (by decide) (cells' := 0) (slots' := 0) rfl rfl ?_
        rintro _ _ ⟨rfl, rfl⟩
        show Run _ _ _ _ _ _ _ _ 50 #[.val (.ref a), .val (.ref a2), .val (.int (i32 (min us.length vs.length))), .val (.int (i32 i)), .val (.int (i32 u)), .val (.int (i32 v))] [.int (i32 (own_rank v)), .int (i32 (own_rank u))]
        refine r_callS C (pc' := 53) (argsL := [.int (i32 (own_rank u)), .int (i32 (own_rank v))]) (c_icomp l Z a0 hw n0 _ _ _ (by omega) (by omega)) d10_50 rfl (w60 hw) (w61 hw) (w62 hw) (w63 hw) (by decide) pd17 (st := []) rfl rfl rfl (W := 0) (Nat.le_of_eq rfl) (by decide) (by decide) (by decide) (by decide) (cells' := 0) (slots' := 0) rfl rfl ?_
        rintro _ _ ⟨rfl, rfl⟩
        show Run _ _ _ _ _ _ _ _ 53 #[.val (.ref a), .val (.ref a2), .val (.int (i32 (min us.length vs.length))), .val (.int (i32 i)), .val (.int (i32 u)), .val (.int (i32 v))] [.int (own_ic (own_rank u) (own_rank v))]
        exact r_ireturn C d10_53 (by decide) (by decide) (Nat.zero_le _) (fun _ _ => ⟨by rw [← ef], rfl⟩)
  refine r_istoreN C (pc' := 12) (Ls' := #[.val (.ref a), .val (.ref a2), .val (.int (i32 (min us.length vs.length))), .unset, .unset, .unset]) d10_11 rfl rfl ?_
  refine r_iconst C (pc' := 13) (v := 0) d10_12 rfl rfl ?_
  refine r_istoreN C (pc' := 14) (Ls' := #[.val (.ref a), .val (.ref a2), .val (.int (i32 (min us.length vs.length))), .val (.int (0 : Int32)), .unset, .unset]) d10_13 rfl rfl ?_
  exact loop _ 0 _ _ rfl (Nat.zero_le _) rfl (Or.inl rfl) (Or.inl rfl)
set_option maxRecDepth 65536 in
set_option maxHeartbeats 4000000 in
theorem c_ref (l : Launch) (Z : State) (a0 : Array Value) (hw : ∀ d ∈ tables_1, d.before a0 Z = true) (n0 : Nat) (h0 : Heap) (la x0 x1 lb y0 y1 : Nat) (hla : la < 3) (hlb : lb < 3) (b0 : x0 < 65536) (b1 : x1 < 65536) (d0 : y0 < 65536) (d1 : y1 < 65536) :
    Con l [] (⟨"com/example/heredity/heredity/CodePointOrderComparePinLaw", "ref", "(ICCICC)I"⟩ : MethodName) method_6_code 7 (some .int) ({ frames := 2, cells := 0, slots := 0, locals := 28 } : Room) Z #[(.int (i32 la)), (.int (i32 x0)), (.int (i32 x1)), (.int (i32 lb)), (.int (i32 y0)), (.int (i32 y1))] h0 n0 (fun v h => v = some (.int (own_ref la x0 x1 lb y0 y1)) ∧ h0 = h) := by
  refine enter (Ls := #[.val (.int (i32 la)), .val (.int (i32 x0)), .val (.int (i32 x1)), .val (.int (i32 lb)), .val (.int (i32 y0)), .val (.int (i32 y1)), .unset]) pn27 (fun m => by first | (simp [entryFrame, mkF, argsToLocals, Value.category]; done) | rfl) ?_
  intro K C
  refine r_iloadN C (pc' := 1) d8_0 rfl rfl ?_
  refine r_iloadN C (pc' := 2) d8_1 rfl rfl ?_
  refine r_callS C (pc' := 5) (argsL := [.int (i32 la), .int (i32 lb)]) (c_min l Z a0 hw n0 h0 la lb (by omega) (by omega)) d8_2 rfl (w41 hw) (w42 hw) (w43 hw) (w44 hw) (by decide) pd17 (st := []) rfl rfl rfl (W := 0) (Nat.le_of_eq rfl) (by decide) (by decide) (by decide) (by decide) (cells' := 0) (slots' := 0) rfl rfl ?_
  rintro _ _ ⟨rfl, rfl⟩
  show Run _ _ _ _ _ _ _ _ 5 #[.val (.int (i32 la)), .val (.int (i32 x0)), .val (.int (i32 x1)), .val (.int (i32 lb)), .val (.int (i32 y0)), .val (.int (i32 y1)), .unset] [.int (i32 (min la lb))]
  have mn : min la lb < 3 := by omega
  have last : own_ref la x0 x1 lb y0 y1 = (if la < lb then (-1 : Int32) else if lb < la then 1 else 0) → Run l ({ frames := 2, cells := 0, slots := 0, locals := 28 } : Room) n0 (fun v h _ => v = some (.int (own_ref la x0 x1 lb y0 y1)) ∧ h0 = h) K h0 0 0 45 #[.val (.int (i32 la)), .val (.int (i32 x0)), .val (.int (i32 x1)), .val (.int (i32 lb)), .val (.int (i32 y0)), .val (.int (i32 y1)), .val (.int (i32 (min la lb)))] [] := by
    intro er
    refine r_iloadN C (pc' := 46) d8_45 rfl rfl ?_
    refine r_iloadN C (pc' := 47) d8_46 rfl rfl ?_
    refine r_icmp_ge C (pt := 52) (pc' := 50) d8_47 (by decide) (by decide) rfl ?_ ?_
    · intro q
      have q' : ¬ la < lb := fun z => q ((i32_lt (by omega) (by omega)).mpr z)
      refine r_iloadN C (pc' := 53) d8_52 rfl rfl ?_
      refine r_iloadN C (pc' := 54) d8_53 rfl rfl ?_
      refine r_icmp_le C (pt := 59) (pc' := 57) d8_54 (by decide) (by decide) rfl ?_ ?_
      · intro r
        have r' : ¬ lb < la := fun z => r ((i32_lt (by omega) (by omega)).mpr z)
        refine r_iconst C (pc' := 60) (v := 0) d8_59 rfl rfl ?_
        exact r_ireturn C d8_60 (by decide) (by decide) (Nat.zero_le _) (fun _ _ => ⟨by rw [er, if_neg q', if_neg r'], rfl⟩)
      · intro r
        have r' : lb < la := (i32_lt (by omega) (by omega)).mp r
        refine r_iconst C (pc' := 58) (v := 1) d8_57 rfl rfl ?_
        exact r_ireturn C d8_58 (by decide) (by decide) (Nat.zero_le _) (fun _ _ => ⟨by rw [er, if_neg q', if_pos r'], rfl⟩)
    · intro q
      have q' : la < lb := (i32_lt (by omega) (by omega)).mp q
      refine r_iconst C (pc' := 51) (v := (-1)) d8_50 rfl rfl ?_
      exact r_ireturn C d8_51 (by decide) (by decide) (Nat.zero_le _) (fun _ _ => ⟨by rw [er, if_pos q'], rfl⟩)
  have mid : own_ref la x0 x1 lb y0 y1 = (if 2 ≤ min la lb ∧ x1 ≠ y1 then own_ck x1 y1 else if la < lb then (-1 : Int32) else if lb < la then 1 else 0) → Run l ({ frames := 2, cells := 0, slots := 0, locals := 28 } : Room) n0 (fun v h _ => v = some (.int (own_ref la x0 x1 lb y0 y1)) ∧ h0 = h) K h0 0 0 26 #[.val (.int (i32 la)), .val (.int (i32 x0)), .val (.int (i32 x1)), .val (.int (i32 lb)), .val (.int (i32 y0)), .val (.int (i32 y1)), .val (.int (i32 (min la lb)))] [] := by
    intro er
    refine r_iload C (pc' := 28) d8_26 rfl rfl ?_
    refine r_iconst C (pc' := 29) (v := 2) d8_28 rfl rfl ?_
    refine r_icmp_lt C (pt := 45) (pc' := 32) d8_29 (by decide) (by decide) rfl ?_ ?_
    · intro q
      have q' : min la lb < 2 := (i32_lt (b := 2) (by omega) (by decide)).mp q
      exact last (by rw [er, if_neg (by omega)])
    · intro q
      have q' : ¬ min la lb < 2 := fun z => q ((i32_lt (b := 2) (by omega) (by decide)).mpr z)
      refine r_iloadN C (pc' := 33) d8_32 rfl rfl ?_
      refine r_iload C (pc' := 35) d8_33 rfl rfl ?_
      refine r_icmp_eq C (pt := 45) (pc' := 38) d8_35 (by decide) (by decide) rfl ?_ ?_
      · intro r
        have r' : x1 = y1 := (i32_eq (by omega) (by omega)).mp r
        exact last (by rw [er, if_neg (fun z => z.2 r')])
      · intro r
        have r' : x1 ≠ y1 := fun z => r (by rw [z])
        refine r_iloadN C (pc' := 39) d8_38 rfl rfl ?_
        refine r_iload C (pc' := 41) d8_39 rfl rfl ?_
        refine r_callS C (pc' := 44) (argsL := [.int (i32 x1), .int (i32 y1)]) (c_cmpKeys l Z a0 hw n0 h0 x1 y1 b1 d1) d8_41 rfl (w83 hw) (w84 hw) (w3 hw) (w85 hw) (by decide) pd19 (st := []) rfl rfl rfl (W := 0) (Nat.le_of_eq rfl) (by decide) (by decide) (by decide) (by decide) (cells' := 0) (slots' := 0) rfl rfl ?_
        rintro _ _ ⟨rfl, rfl⟩
        show Run _ _ _ _ _ _ _ _ 44 #[.val (.int (i32 la)), .val (.int (i32 x0)), .val (.int (i32 x1)), .val (.int (i32 lb)), .val (.int (i32 y0)), .val (.int (i32 y1)), .val (.int (i32 (min la lb)))] [.int (own_ck x1 y1)]
        exact r_ireturn C d8_44 (by decide) (by decide) (Nat.zero_le _) (fun _ _ => ⟨by rw [er, if_pos ⟨by omega, r'⟩], rfl⟩)
  refine r_istore C (pc' := 7) (Ls' := #[.val (.int (i32 la)), .val (.int (i32 x0)), .val (.int (i32 x1)), .val (.int (i32 lb)), .val (.int (i32 y0)), .val (.int (i32 y1)), .val (.int (i32 (min la lb)))]) d8_5 rfl rfl ?_
  refine r_iload C (pc' := 9) d8_7 rfl rfl ?_
  refine r_iconst C (pc' := 10) (v := 1) d8_9 rfl rfl ?_
  refine r_icmp_lt C (pt := 26) (pc' := 13) d8_10 (by decide) (by decide) rfl ?_ ?_
  · intro q
    have q' : min la lb < 1 := (i32_lt (b := 1) (by omega) (by decide)).mp q
    exact mid (by rw [own_ref, if_neg (by omega)])
  · intro q
    have q' : ¬ min la lb < 1 := fun z => q ((i32_lt (b := 1) (by omega) (by decide)).mpr z)
    refine r_iloadN C (pc' := 14) d8_13 rfl rfl ?_
    refine r_iload C (pc' := 16) d8_14 rfl rfl ?_
    refine r_icmp_eq C (pt := 26) (pc' := 19) d8_16 (by decide) (by decide) rfl ?_ ?_
    · intro r
      have r' : x0 = y0 := (i32_eq (by omega) (by omega)).mp r
      exact mid (by rw [own_ref, if_neg (fun z => z.2 r')])
    · intro r
      have r' : x0 ≠ y0 := fun z => r (by rw [z])
      refine r_iloadN C (pc' := 20) d8_19 rfl rfl ?_
      refine r_iload C (pc' := 22) d8_20 rfl rfl ?_
      refine r_callS C (pc' := 25) (argsL := [.int (i32 x0), .int (i32 y0)]) (c_cmpKeys l Z a0 hw n0 h0 x0 y0 b0 d0) d8_22 rfl (w83 hw) (w84 hw) (w3 hw) (w85 hw) (by decide) pd19 (st := []) rfl rfl rfl (W := 0) (Nat.le_of_eq rfl) (by decide) (by decide) (by decide) (by decide) (cells' := 0) (slots' := 0) rfl rfl ?_
      rintro _ _ ⟨rfl, rfl⟩
      show Run _ _ _ _ _ _ _ _ 25 #[.val (.int (i32 la)), .val (.int (i32 x0)), .val (.int (i32 x1)), .val (.int (i32 lb)), .val (.int (i32 y0)), .val (.int (i32 y1)), .val (.int (i32 (min la lb)))] [.int (own_ck x0 y0)]
      exact r_ireturn C d8_25 (by decide) (by decide) (Nat.zero_le _) (fun _ _ => ⟨by rw [own_ref, if_pos ⟨by omega, r'⟩], rfl⟩)
set_option maxRecDepth 65536 in
set_option maxHeartbeats 4000000 in
theorem c_str (l : Launch) (Z : State) (a0 : Array Value) (hw : ∀ d ∈ tables_1, d.before a0 Z = true) (n0 : Nat) (h0 : Heap) (cc : Int32) (fv : Value) (ss : own_SS Z cc fv) (ol : Old Z n0 h0) (su : own_SU Z) (hn : n0 ≤ h0.size) (len c0 c1 : Nat) (hlen : len < 3) (b0 : c0 < 65536) (b1 : c1 < 65536) (held : Jvm.Lit.constHeld Z "java/lang/String" 7) (hcw : Jvm.Lit.compactW.before a0 Z = true) :
    ConW l [] (⟨"com/example/heredity/heredity/CodePointOrderComparePinLaw", "str", "(ICC)Ljava/lang/String;"⟩ : MethodName) method_3_code 3 (some (.object "java/lang/String")) ({ frames := 6, cells := 4, slots := 12, locals := 88 } : Room) Z #[(.int (i32 len)), (.int (i32 c0)), (.int (i32 c1))] h0 n0 (fun vm => EE Z h0 vm) (fun v h vm => (∃ (a b : Nat) (k : ClassId), v = some (.ref a) ∧ GS Z h a b k (own_two len c0 c1) ∧ a < h.size ∧ b < h.size) ∧ Keep h0 h [] ∧ EE Z h vm) := by
  refine enterW (Ls := #[.val (.int (i32 len)), .val (.int (i32 c0)), .val (.int (i32 c1))]) pn28 (fun m => by first | (simp [entryFrame, mkF, argsToLocals, Value.category]; done) | rfl) ?_
  intro K vm kz B D hkz hV
  have C := B.ctx0 D
  refine r_iloadN C (pc' := 1) d1_0 rfl rfl ?_
  refine r_if_ne C (pt := 15) (pc' := 4) d1_1 (by decide) (by decide) rfl ?_ ?_
  · intro q
    refine r_iloadN C (pc' := 16) d1_15 rfl rfl ?_
    refine r_iconst C (pc' := 17) (v := 1) d1_16 rfl rfl ?_
    refine r_icmp_ne C (pt := 35) (pc' := 20) d1_17 (by decide) (by decide) rfl ?_ ?_
    · intro r
      have e2 : len = 2 := by have n0' : len ≠ 0 := fun z => q (by rw [z]; rfl); have n1' : len ≠ 1 := fun z => r (by rw [z]; rfl); omega
      subst e2
      refine Run.touch ?_
      replace C := B.ctx D
      refine r_new C (pc' := 38) d1_35 rfl (w5 hw) (w6 hw) (w7 hw) (by decide) (by decide) ?_
      intro h1 a ga E1 E D1
      have Fv : Fld Z h1 a "java/lang/String" "value" "[B" (.null) := D1 (Or.inr (w34 hw)) (ty := (.array .byte)) (by decide)
      have Fc : Fld Z h1 a "java/lang/String" "coder" "B" (.int 0) := D1 (Or.inr (w32 hw)) (ty := .byte) (by decide)
      have x_h1 := E1.1
      have la := exaLt E
      have Kp := (Keep.refl h0 []).ext E1
      refine r_dup C (pc' := 39) d1_38 rfl rfl ?_
      refine r_iconst C (pc' := 40) (v := 2) d1_39 rfl rfl ?_
      refine r_newarrayV C (pc' := 42) (ty := .char) (m := 2) (cap := 2) d1_40 rfl rfl (w8 hw) rfl (by decide) (by decide) (by decide) (by decide) ?_
      intro h2 ac kc gc E2 A0
      have x2 := E2.1
      replace Kp := Kp.ext E2
      replace E := E.ext E2
      replace Fv := Fv.ext E2
      replace Fc := Fc.ext E2
      refine r_dup C (pc' := 43) d1_42 rfl rfl ?_
      refine r_iconst C (pc' := 44) (v := 0) d1_43 rfl rfl ?_
      refine r_iloadN C (pc' := 45) d1_44 rfl rfl ?_
      refine r_castoreV C (pc' := 46) (i := 0) d1_45 rfl A0 rfl (by simp) (fits_nar_char _) (by omega) ?_
      intro h3 W0 A1
      rw [own_chn (by omega)] at A1
      have y0 := W0.size
      replace Kp := Kp.wr W0 (Or.inr (by omega))
      replace E := E.wr W0
      replace Fv := Fv.other W0 (Or.inl (nn (by omega)))
      replace Fc := Fc.other W0 (Or.inl (nn (by omega)))
      refine r_dup C (pc' := 47) d1_46 rfl rfl ?_
      refine r_iconst C (pc' := 48) (v := 1) d1_47 rfl rfl ?_
      refine r_iloadN C (pc' := 49) d1_48 rfl rfl ?_
      refine r_castoreV C (pc' := 50) (i := 1) d1_49 rfl A1 rfl (by simp) (fits_nar_char _) (by omega) ?_
      intro h4 W1 A2
      rw [own_chn (by omega)] at A2
      have y1 := W1.size
      replace Kp := Kp.wr W1 (Or.inr (by omega))
      replace E := E.wr W1
      replace Fv := Fv.other W1 (Or.inl (nn (by omega)))
      replace Fc := Fc.other W1 (Or.inl (nn (by omega)))
      have A' : AV Z h4 ac kc .char ((own_two 2 c0 c1).map vch) (.int 0) := A2
      refine r_callIW (rt := none) (pc' := 53) (argsL := [.ref ac]) B D (by omega) (c_initCE l Z a0 hw n0 h4 cc fv ss (ol.keep Kp all0) su (by omega) a ac kc _ (by omega) E Fv _ Fc A' (own_two_ok b0 b1) (show 2 ≤ 2 by decide) held hcw) (fun vm' hW => EE.warm (hV.keep Kp) hW) d1_50 rfl (w9 hw) (w10 hw) (w7 hw) (w11 hw) rfl (by decide) pd20 (st := [.ref a]) rfl rfl rfl (W := 1) (Nat.le_of_eq rfl) (by decide) (by decide) (by decide) (by decide) (cells' := 4) (slots' := 12) rfl rfl ?_
      rintro _ h9 vm1 ⟨rfl, K1, ⟨b, k, G, nb⟩, I1⟩ x9 D'
      replace D := D'
      replace C := B.ctx D
      show Run _ _ _ _ _ h9 _ _ 53 #[.val (.int (i32 2)), .val (.int (i32 c0)), .val (.int (i32 c1))] [.ref a]
      exact r_areturn C d1_53 rfl rfl (by decide) (by decide) (Nat.le_refl _) (fun vm' hW => ⟨⟨a, b, k, rfl, G, G.lt.1, G.lt.2⟩, Kp.trans K1 (allS (Or.inr (by omega)) all0), EE.at I1 hW⟩)
    · intro r
      have e1 : len = 1 := (i32_eq (b := 1) (by omega) (by decide)).mp r
      subst e1
      refine Run.touch ?_
      replace C := B.ctx D
      refine r_new C (pc' := 23) d1_20 rfl (w5 hw) (w6 hw) (w7 hw) (by decide) (by decide) ?_
      intro h1 a ga E1 E D1
      have Fv : Fld Z h1 a "java/lang/String" "value" "[B" (.null) := D1 (Or.inr (w34 hw)) (ty := (.array .byte)) (by decide)
      have Fc : Fld Z h1 a "java/lang/String" "coder" "B" (.int 0) := D1 (Or.inr (w32 hw)) (ty := .byte) (by decide)
      have x_h1 := E1.1
      have la := exaLt E
      have Kp := (Keep.refl h0 []).ext E1
      refine r_dup C (pc' := 24) d1_23 rfl rfl ?_
      refine r_iconst C (pc' := 25) (v := 1) d1_24 rfl rfl ?_
      refine r_newarrayV C (pc' := 27) (ty := .char) (m := 1) (cap := 1) d1_25 rfl rfl (w8 hw) rfl (by decide) (by decide) (by decide) (by decide) ?_
      intro h2 ac kc gc E2 A0
      have x2 := E2.1
      replace Kp := Kp.ext E2
      replace E := E.ext E2
      replace Fv := Fv.ext E2
      replace Fc := Fc.ext E2
      refine r_dup C (pc' := 28) d1_27 rfl rfl ?_
      refine r_iconst C (pc' := 29) (v := 0) d1_28 rfl rfl ?_
      refine r_iloadN C (pc' := 30) d1_29 rfl rfl ?_
      refine r_castoreV C (pc' := 31) (i := 0) d1_30 rfl A0 rfl (by simp) (fits_nar_char _) (by omega) ?_
      intro h3 W0 A1
      rw [own_chn (by omega)] at A1
      have y0 := W0.size
      replace Kp := Kp.wr W0 (Or.inr (by omega))
      replace E := E.wr W0
      replace Fv := Fv.other W0 (Or.inl (nn (by omega)))
      replace Fc := Fc.other W0 (Or.inl (nn (by omega)))
      have A' : AV Z h3 ac kc .char ((own_two 1 c0 c1).map vch) (.int 0) := A1
      refine r_callIW (rt := none) (pc' := 34) (argsL := [.ref ac]) B D (by omega) (c_initCE l Z a0 hw n0 h3 cc fv ss (ol.keep Kp all0) su (by omega) a ac kc _ (by omega) E Fv _ Fc A' (own_two_ok b0 b1) (show 1 ≤ 2 by decide) held hcw) (fun vm' hW => EE.warm (hV.keep Kp) hW) d1_31 rfl (w9 hw) (w10 hw) (w7 hw) (w11 hw) rfl (by decide) pd20 (st := [.ref a]) rfl rfl rfl (W := 1) (Nat.le_of_eq rfl) (by decide) (by decide) (by decide) (by decide) (cells' := 4) (slots' := 11) rfl rfl ?_
      rintro _ h9 vm1 ⟨rfl, K1, ⟨b, k, G, nb⟩, I1⟩ x9 D'
      replace D := D'
      replace C := B.ctx D
      show Run _ _ _ _ _ h9 _ _ 34 #[.val (.int (i32 1)), .val (.int (i32 c0)), .val (.int (i32 c1))] [.ref a]
      exact r_areturn C d1_34 rfl rfl (by decide) (by decide) (Nat.le_refl _) (fun vm' hW => ⟨⟨a, b, k, rfl, G, G.lt.1, G.lt.2⟩, Kp.trans K1 (allS (Or.inr (by omega)) all0), EE.at I1 hW⟩)
  · intro q
    have e0 : len = 0 := (i32_eq (b := 0) (by omega) (by decide)).mp q
    subst e0
    refine Run.touch ?_
    replace C := B.ctx D
    refine r_new C (pc' := 7) d1_4 rfl (w5 hw) (w6 hw) (w7 hw) (by decide) (by decide) ?_
    intro h1 a ga E1 E D1
    have Fv : Fld Z h1 a "java/lang/String" "value" "[B" (.null) := D1 (Or.inr (w34 hw)) (ty := (.array .byte)) (by decide)
    have Fc : Fld Z h1 a "java/lang/String" "coder" "B" (.int 0) := D1 (Or.inr (w32 hw)) (ty := .byte) (by decide)
    have x_h1 := E1.1
    have la := exaLt E
    have Kp := (Keep.refl h0 []).ext E1
    refine r_dup C (pc' := 8) d1_7 rfl rfl ?_
    refine r_iconst C (pc' := 9) (v := 0) d1_8 rfl rfl ?_
    refine r_newarrayV C (pc' := 11) (ty := .char) (m := 0) (cap := 0) d1_9 rfl rfl (w8 hw) rfl (by decide) (by decide) (by decide) (by decide) ?_
    intro h2 ac kc gc E2 A0
    have x2 := E2.1
    replace Kp := Kp.ext E2
    replace E := E.ext E2
    replace Fv := Fv.ext E2
    replace Fc := Fc.ext E2
    have A' : AV Z h2 ac kc .char ((own_two 0 c0 c1).map vch) (.int 0) := A0
    refine r_callIW (rt := none) (pc' := 14) (argsL := [.ref ac]) B D (by omega) (c_initCE l Z a0 hw n0 h2 cc fv ss (ol.keep Kp all0) su (by omega) a ac kc _ (by omega) E Fv _ Fc A' (own_two_ok b0 b1) (show 0 ≤ 2 by decide) held hcw) (fun vm' hW => EE.warm (hV.keep Kp) hW) d1_11 rfl (w9 hw) (w10 hw) (w7 hw) (w11 hw) rfl (by decide) pd20 (st := [.ref a]) rfl rfl rfl (W := 1) (Nat.le_of_eq rfl) (by decide) (by decide) (by decide) (by decide) (cells' := 4) (slots' := 10) rfl rfl ?_
    rintro _ h9 vm1 ⟨rfl, K1, ⟨b, k, G, nb⟩, I1⟩ x9 D'
    replace D := D'
    replace C := B.ctx D
    show Run _ _ _ _ _ h9 _ _ 14 #[.val (.int (i32 0)), .val (.int (i32 c0)), .val (.int (i32 c1))] [.ref a]
    exact r_areturn C d1_14 rfl rfl (by decide) (by decide) (Nat.le_refl _) (fun vm' hW => ⟨⟨a, b, k, rfl, G, G.lt.1, G.lt.2⟩, Kp.trans K1 (allS (Or.inr (by omega)) all0), EE.at I1 hW⟩)
set_option maxRecDepth 65536 in
set_option maxHeartbeats 40000000 in
theorem rm0 (l : Launch) (Z : State) (a0 : Array Value) (hw : ∀ d ∈ tables_1, d.before a0 Z = true) (n0 : Nat) (h0 : Heap) (p0 p1 p2 : Int32) (cc : Int32) (fv : Value) (ss : own_SS Z cc fv) (ol : Old Z n0 h0) (su : own_SU Z) (hn0 : n0 ≤ h0.size) (held : Jvm.Lit.constHeld Z "java/lang/String" 7) (hcw : Jvm.Lit.compactW.before a0 Z = true) :
    ConW l tables_1 x code maxLocals ret room_1 Z #[(.int p0), (.int p1), (.int p2)] h0 n0 (fun vm => IB Z vm []) (fun v _ _ => v = some (.int 1)) := by
  refine enterW (Ls := #[.val (.int p0), .val (.int p1), .val (.int p2), .unset, .unset, .unset, .unset, .unset, .unset, .unset, .unset, .unset, .unset, .unset, .unset]) pn29 (fun m => by first | (simp [entryFrame, mkF, argsToLocals, Value.category, maxLocals]; done) | rfl) ?_
  intro K vm kz B D hkz hV
  replace B : Wb l room_1 Z "com/example/heredity/heredity/CodePointOrderComparePinLaw" "law" code 15 (some .boolean) n0 h0 K := B
  have C := B.ctx0 D
  obtain ⟨a0', ha0', ea0'⟩ := i32_andm (p0) 65535 (by decide)
  obtain ⟨a1', ha1', ea1'⟩ := i32_andm (XT.ushr p0 16) 65535 (by decide)
  obtain ⟨b0', hb0', eb0'⟩ := i32_andm (p1) 65535 (by decide)
  obtain ⟨b1', hb1', eb1'⟩ := i32_andm (XT.ushr p1 16) 65535 (by decide)
  obtain ⟨la', hla', ela'⟩ := i32_andm (p2) 3 (by decide)
  obtain ⟨lb', hlb', elb'⟩ := i32_andm (XT.ushr p2 2) 3 (by decide)
  obtain ⟨md, hmd, emd⟩ := i32_andm (XT.ushr p2 4) 3 (by decide)
  refine Run.touch ?_
  replace C := B.ctx D
  refine r_iloadN C (pc' := 1) at_0 rfl rfl ?_
  refine r_ldcI C (pc' := 3) at_1 rfl (w0 hw) ?_
  refine r_iand C (pc' := 4) at_3 rfl ?_
  refine r_i2c C (pc' := 5) at_4 rfl ?_
  rw [show p0 &&& (65535 : Int32) = i32 a0' from ea0', own_ch (by omega)]
  refine r_istoreN C (pc' := 6) (Ls' := #[.val (.int p0), .val (.int p1), .val (.int p2), .val (.int (i32 a0')), .unset, .unset, .unset, .unset, .unset, .unset, .unset, .unset, .unset, .unset, .unset]) at_5 rfl rfl ?_
  refine r_iloadN C (pc' := 7) at_6 rfl rfl ?_
  refine r_bipush C (pc' := 9) (v := (16)) at_7 rfl rfl ?_
  refine r_iushr C (pc' := 10) at_9 rfl ?_
  refine r_ldcI C (pc' := 12) at_10 rfl (w0 hw) ?_
  refine r_iand C (pc' := 13) at_12 rfl ?_
  refine r_i2c C (pc' := 14) at_13 rfl ?_
  rw [show (XT.ushr p0 (16 : Int32)) &&& (65535 : Int32) = i32 a1' from ea1', own_ch (by omega)]
  refine r_istore C (pc' := 16) (Ls' := #[.val (.int p0), .val (.int p1), .val (.int p2), .val (.int (i32 a0')), .val (.int (i32 a1')), .unset, .unset, .unset, .unset, .unset, .unset, .unset, .unset, .unset, .unset]) at_14 rfl rfl ?_
  refine r_iloadN C (pc' := 17) at_16 rfl rfl ?_
  refine r_ldcI C (pc' := 19) at_17 rfl (w0 hw) ?_
  refine r_iand C (pc' := 20) at_19 rfl ?_
  refine r_i2c C (pc' := 21) at_20 rfl ?_
  rw [show p1 &&& (65535 : Int32) = i32 b0' from eb0', own_ch (by omega)]
  refine r_istore C (pc' := 23) (Ls' := #[.val (.int p0), .val (.int p1), .val (.int p2), .val (.int (i32 a0')), .val (.int (i32 a1')), .val (.int (i32 b0')), .unset, .unset, .unset, .unset, .unset, .unset, .unset, .unset, .unset]) at_21 rfl rfl ?_
  refine r_iloadN C (pc' := 24) at_23 rfl rfl ?_
  refine r_bipush C (pc' := 26) (v := (16)) at_24 rfl rfl ?_
  refine r_iushr C (pc' := 27) at_26 rfl ?_
  refine r_ldcI C (pc' := 29) at_27 rfl (w0 hw) ?_
  refine r_iand C (pc' := 30) at_29 rfl ?_
  refine r_i2c C (pc' := 31) at_30 rfl ?_
  rw [show (XT.ushr p1 (16 : Int32)) &&& (65535 : Int32) = i32 b1' from eb1', own_ch (by omega)]
  refine r_istore C (pc' := 33) (Ls' := #[.val (.int p0), .val (.int p1), .val (.int p2), .val (.int (i32 a0')), .val (.int (i32 a1')), .val (.int (i32 b0')), .val (.int (i32 b1')), .unset, .unset, .unset, .unset, .unset, .unset, .unset, .unset]) at_31 rfl rfl ?_
  refine r_iloadN C (pc' := 34) at_33 rfl rfl ?_
  refine r_iconst C (pc' := 35) (v := 3) at_34 rfl rfl ?_
  refine r_iand C (pc' := 36) at_35 rfl ?_
  refine r_iconst C (pc' := 37) (v := 3) at_36 rfl rfl ?_
  refine r_irem C (pc' := 38) at_37 rfl (by decide) ?_
  rw [show p2 &&& (3 : Int32) = i32 la' from ela', show i32 la' % (3 : Int32) = i32 (la' % 3) from i32_rem (b := 3) (by omega) (by decide)]
  obtain ⟨la, qla⟩ : ∃ z, la' % 3 = z := ⟨_, rfl⟩
  have hla : la < 3 := by omega
  rw [qla]
  refine r_istore C (pc' := 40) (Ls' := #[.val (.int p0), .val (.int p1), .val (.int p2), .val (.int (i32 a0')), .val (.int (i32 a1')), .val (.int (i32 b0')), .val (.int (i32 b1')), .val (.int (i32 la)), .unset, .unset, .unset, .unset, .unset, .unset, .unset]) at_38 rfl rfl ?_
  refine r_iloadN C (pc' := 41) at_40 rfl rfl ?_
  refine r_iconst C (pc' := 42) (v := 2) at_41 rfl rfl ?_
  refine r_iushr C (pc' := 43) at_42 rfl ?_
  refine r_iconst C (pc' := 44) (v := 3) at_43 rfl rfl ?_
  refine r_iand C (pc' := 45) at_44 rfl ?_
  refine r_iconst C (pc' := 46) (v := 3) at_45 rfl rfl ?_
  refine r_irem C (pc' := 47) at_46 rfl (by decide) ?_
  rw [show (XT.ushr p2 (2 : Int32)) &&& (3 : Int32) = i32 lb' from elb', show i32 lb' % (3 : Int32) = i32 (lb' % 3) from i32_rem (b := 3) (by omega) (by decide)]
  obtain ⟨lb, qlb⟩ : ∃ z, lb' % 3 = z := ⟨_, rfl⟩
  have hlb : lb < 3 := by omega
  rw [qlb]
  refine r_istore C (pc' := 49) (Ls' := #[.val (.int p0), .val (.int p1), .val (.int p2), .val (.int (i32 a0')), .val (.int (i32 a1')), .val (.int (i32 b0')), .val (.int (i32 b1')), .val (.int (i32 la)), .val (.int (i32 lb)), .unset, .unset, .unset, .unset, .unset, .unset]) at_47 rfl rfl ?_
  refine r_iloadN C (pc' := 50) at_49 rfl rfl ?_
  refine r_iconst C (pc' := 51) (v := 4) at_50 rfl rfl ?_
  refine r_iushr C (pc' := 52) at_51 rfl ?_
  refine r_iconst C (pc' := 53) (v := 3) at_52 rfl rfl ?_
  refine r_iand C (pc' := 54) at_53 rfl ?_
  rw [show XT.ushr p2 (4 : Int32) &&& (3 : Int32) = i32 md from emd]
  refine r_istore C (pc' := 56) (Ls' := #[.val (.int p0), .val (.int p1), .val (.int p2), .val (.int (i32 a0')), .val (.int (i32 a1')), .val (.int (i32 b0')), .val (.int (i32 b1')), .val (.int (i32 la)), .val (.int (i32 lb)), .val (.int (i32 md)), .unset, .unset, .unset, .unset, .unset]) at_54 rfl rfl ?_
  have rest : ∀ y0 y1 : Nat, y0 < 65536 → y1 < 65536 → Run l room_1 n0 (fun v _ _ => v = some (.int 1)) (Kw K (Fr n0) vm) h0 0 0 87 #[.val (.int p0), .val (.int p1), .val (.int p2), .val (.int (i32 a0')), .val (.int (i32 a1')), .val (.int (i32 y0)), .val (.int (i32 y1)), .val (.int (i32 la)), .val (.int (i32 lb)), .val (.int (i32 md)), .unset, .unset, .unset, .unset, .unset] [] := by
    intro y0 y1 hy0 hy1
    refine r_iload C (pc' := 89) at_87 rfl rfl ?_
    refine r_iloadN C (pc' := 90) at_89 rfl rfl ?_
    refine r_iload C (pc' := 92) at_90 rfl rfl ?_
    refine r_callSW (pc' := 95) (argsL := [.int (i32 la), .int (i32 a0'), .int (i32 a1')]) B D (by omega) (c_str l Z a0 hw n0 h0 cc fv ss ol su hn0 la a0' a1' hla (by omega) (by omega) held hcw) (fun vm' hW => EE.warm (Or.inl hV) hW) at_92 rfl (w1 hw) (w2 hw) (w3 hw) (w4 hw) (by decide) pd21 (st := []) rfl rfl rfl (W := 0) (Nat.le_of_eq rfl) (by decide) (by decide) (by decide) (by decide) (cells' := 4) (slots' := 12) rfl rfl ?_
    rintro _ h1 vm1 ⟨⟨a, b, k, rfl, G, l1, l2⟩, K1, I1⟩ x1 D1
    replace D := D1
    replace C := B.ctx D
    show Run _ _ _ _ _ h1 _ _ 95 #[.val (.int p0), .val (.int p1), .val (.int p2), .val (.int (i32 a0')), .val (.int (i32 a1')), .val (.int (i32 y0)), .val (.int (i32 y1)), .val (.int (i32 la)), .val (.int (i32 lb)), .val (.int (i32 md)), .unset, .unset, .unset, .unset, .unset] [.ref a]
    replace ol := ol.keep K1 all0
    refine r_astore C (pc' := 97) (Ls' := #[.val (.int p0), .val (.int p1), .val (.int p2), .val (.int (i32 a0')), .val (.int (i32 a1')), .val (.int (i32 y0)), .val (.int (i32 y1)), .val (.int (i32 la)), .val (.int (i32 lb)), .val (.int (i32 md)), .val (.ref a), .unset, .unset, .unset, .unset]) at_95 rfl rfl rfl ?_
    refine r_iload C (pc' := 99) at_97 rfl rfl ?_
    refine r_iload C (pc' := 101) at_99 rfl rfl ?_
    refine r_iload C (pc' := 103) at_101 rfl rfl ?_
    refine r_callSW (pc' := 106) (argsL := [.int (i32 lb), .int (i32 y0), .int (i32 y1)]) B D (by omega) (c_str l Z a0 hw n0 h1 cc fv ss ol su (by omega) lb y0 y1 hlb hy0 hy1 held hcw) (fun vm' hW => EE.warm I1 hW) at_103 rfl (w1 hw) (w2 hw) (w3 hw) (w4 hw) (by decide) pd21 (st := []) rfl rfl rfl (W := 0) (Nat.le_of_eq rfl) (by decide) (by decide) (by decide) (by decide) (cells' := 8) (slots' := 24) rfl rfl ?_
    rintro _ h2 vm2 ⟨⟨a2, b2, k2, rfl, G2, l3, l4⟩, K2, I2⟩ x2 D2
    replace D := D2
    replace C := B.ctx D
    show Run _ _ _ _ _ h2 _ _ 106 #[.val (.int p0), .val (.int p1), .val (.int p2), .val (.int (i32 a0')), .val (.int (i32 a1')), .val (.int (i32 y0)), .val (.int (i32 y1)), .val (.int (i32 la)), .val (.int (i32 lb)), .val (.int (i32 md)), .val (.ref a), .unset, .unset, .unset, .unset] [.ref a2]
    replace ol := ol.keep K2 all0
    replace G := G.keep K2 nin0 nin0
    refine r_astore C (pc' := 108) (Ls' := #[.val (.int p0), .val (.int p1), .val (.int p2), .val (.int (i32 a0')), .val (.int (i32 a1')), .val (.int (i32 y0)), .val (.int (i32 y1)), .val (.int (i32 la)), .val (.int (i32 lb)), .val (.int (i32 md)), .val (.ref a), .val (.ref a2), .unset, .unset, .unset]) at_106 rfl rfl rfl ?_
    refine r_iload C (pc' := 110) at_108 rfl rfl ?_
    refine r_iloadN C (pc' := 111) at_110 rfl rfl ?_
    refine r_iload C (pc' := 113) at_111 rfl rfl ?_
    refine r_iload C (pc' := 115) at_113 rfl rfl ?_
    refine r_iload C (pc' := 117) at_115 rfl rfl ?_
    refine r_iload C (pc' := 119) at_117 rfl rfl ?_
    refine r_callS C (pc' := 122) (argsL := [.int (i32 la), .int (i32 a0'), .int (i32 a1'), .int (i32 lb), .int (i32 y0), .int (i32 y1)]) (c_ref l Z a0 hw n0 h2 la a0' a1' lb y0 y1 hla hlb (by omega) (by omega) hy0 hy1) at_119 rfl (w38 hw) (w39 hw) (w3 hw) (w40 hw) (by decide) pd22 (st := []) rfl rfl rfl (W := 0) (Nat.le_of_eq rfl) (by decide) (by decide) (by decide) (by decide) (cells' := 8) (slots' := 24) rfl rfl ?_
    rintro _ _ ⟨rfl, rfl⟩
    show Run _ _ _ _ _ _ _ _ 122 #[.val (.int p0), .val (.int p1), .val (.int p2), .val (.int (i32 a0')), .val (.int (i32 a1')), .val (.int (i32 y0)), .val (.int (i32 y1)), .val (.int (i32 la)), .val (.int (i32 lb)), .val (.int (i32 md)), .val (.ref a), .val (.ref a2), .unset, .unset, .unset] [.int (own_ref la a0' a1' lb y0 y1)]
    refine r_istore C (pc' := 124) (Ls' := #[.val (.int p0), .val (.int p1), .val (.int p2), .val (.int (i32 a0')), .val (.int (i32 a1')), .val (.int (i32 y0)), .val (.int (i32 y1)), .val (.int (i32 la)), .val (.int (i32 lb)), .val (.int (i32 md)), .val (.ref a), .val (.ref a2), .val (.int (own_ref la a0' a1' lb y0 y1)), .unset, .unset]) at_122 rfl rfl ?_
    refine r_aload C (pc' := 126) at_124 rfl rfl rfl ?_
    refine r_aload C (pc' := 128) at_126 rfl rfl rfl ?_
    refine r_callS C (pc' := 131) (argsL := [.ref a, .ref a2]) (c_compare l Z a0 hw n0 _ cc fv ss ol su a b k _ G a2 b2 k2 _ G2 (by rw [own_two_len hla]; omega) (by rw [own_two_len hlb]; omega) (own_two_ok (by omega) (by omega)) (own_two_ok hy0 hy1)) at_128 rfl (w45 hw) (w46 hw) (w47 hw) (w48 hw) (by decide) pd23 (st := []) rfl rfl rfl (W := 0) (Nat.le_of_eq rfl) (by decide) (by decide) (by decide) (by decide) (cells' := 8) (slots' := 24) rfl rfl ?_
    rintro _ _ ⟨rfl, rfl⟩
    show Run _ _ _ _ _ _ _ _ 131 #[.val (.int p0), .val (.int p1), .val (.int p2), .val (.int (i32 a0')), .val (.int (i32 a1')), .val (.int (i32 y0)), .val (.int (i32 y1)), .val (.int (i32 la)), .val (.int (i32 lb)), .val (.int (i32 md)), .val (.ref a), .val (.ref a2), .val (.int (own_ref la a0' a1' lb y0 y1)), .unset, .unset] [.int (own_cmp (own_two la a0' a1').length (own_two lb y0 y1).length (own_two la a0' a1') (own_two lb y0 y1))]
    have es := own_eqs (la := la) (a0 := a0') (a1 := a1') (lb := lb) (b0 := y0) (b1 := y1) hla hlb (by omega) (by omega) hy0 hy1
    have e3 := own_cmp3 la lb (own_two la a0' a1') (own_two lb y0 y1)
    rw [own_two_len hla, own_two_len hlb, ← es]
    rcases e3 with e | e | e
    · rw [e]
      show Run _ _ _ _ _ _ _ _ 131 #[.val (.int p0), .val (.int p1), .val (.int p2), .val (.int (i32 a0')), .val (.int (i32 a1')), .val (.int (i32 y0)), .val (.int (i32 y1)), .val (.int (i32 la)), .val (.int (i32 lb)), .val (.int (i32 md)), .val (.ref a), .val (.ref a2), .val (.int (-1 : Int32)), .unset, .unset] [.int (-1 : Int32)]
      refine r_istore C (pc' := 133) (Ls' := #[.val (.int p0), .val (.int p1), .val (.int p2), .val (.int (i32 a0')), .val (.int (i32 a1')), .val (.int (i32 y0)), .val (.int (i32 y1)), .val (.int (i32 la)), .val (.int (i32 lb)), .val (.int (i32 md)), .val (.ref a), .val (.ref a2), .val (.int (-1 : Int32)), .val (.int (-1 : Int32)), .unset]) at_131 rfl rfl ?_
      refine r_iload C (pc' := 135) at_133 rfl rfl ?_
      refine r_if_ge_f C (pc' := 138) at_135 rfl (by decide) ?_
      refine r_iconst C (pc' := 139) (v := (-1)) at_138 rfl rfl ?_
      refine r_goto C (pc' := 152) at_139 (by decide) (by decide) ?_
      refine r_istore C (pc' := 154) (Ls' := #[.val (.int p0), .val (.int p1), .val (.int p2), .val (.int (i32 a0')), .val (.int (i32 a1')), .val (.int (i32 y0)), .val (.int (i32 y1)), .val (.int (i32 la)), .val (.int (i32 lb)), .val (.int (i32 md)), .val (.ref a), .val (.ref a2), .val (.int (-1 : Int32)), .val (.int (-1 : Int32)), .val (.int (-1 : Int32))]) at_152 rfl rfl ?_
      refine r_iload C (pc' := 156) at_154 rfl rfl ?_
      refine r_iload C (pc' := 158) at_156 rfl rfl ?_
      refine r_icmp_ne_f C (pc' := 161) at_158 rfl (by decide) ?_
      refine r_iconst C (pc' := 162) (v := 1) at_161 rfl rfl ?_
      refine r_goto C (pc' := 166) at_162 (by decide) (by decide) ?_
      exact r_zreturn C at_166 rfl (by decide) (by decide) (Nat.le_refl _) (fun _ _ => rfl)
    · rw [e]
      show Run _ _ _ _ _ _ _ _ 131 #[.val (.int p0), .val (.int p1), .val (.int p2), .val (.int (i32 a0')), .val (.int (i32 a1')), .val (.int (i32 y0)), .val (.int (i32 y1)), .val (.int (i32 la)), .val (.int (i32 lb)), .val (.int (i32 md)), .val (.ref a), .val (.ref a2), .val (.int (0 : Int32)), .unset, .unset] [.int (0 : Int32)]
      refine r_istore C (pc' := 133) (Ls' := #[.val (.int p0), .val (.int p1), .val (.int p2), .val (.int (i32 a0')), .val (.int (i32 a1')), .val (.int (i32 y0)), .val (.int (i32 y1)), .val (.int (i32 la)), .val (.int (i32 lb)), .val (.int (i32 md)), .val (.ref a), .val (.ref a2), .val (.int (0 : Int32)), .val (.int (0 : Int32)), .unset]) at_131 rfl rfl ?_
      refine r_iload C (pc' := 135) at_133 rfl rfl ?_
      refine r_if_ge_t C (pc' := 142) at_135 (by decide) (by decide) (by decide) ?_
      refine r_iload C (pc' := 144) at_142 rfl rfl ?_
      refine r_if_le_t C (pc' := 151) at_144 (by decide) (by decide) (by decide) ?_
      refine r_iconst C (pc' := 152) (v := 0) at_151 rfl rfl ?_
      refine r_istore C (pc' := 154) (Ls' := #[.val (.int p0), .val (.int p1), .val (.int p2), .val (.int (i32 a0')), .val (.int (i32 a1')), .val (.int (i32 y0)), .val (.int (i32 y1)), .val (.int (i32 la)), .val (.int (i32 lb)), .val (.int (i32 md)), .val (.ref a), .val (.ref a2), .val (.int (0 : Int32)), .val (.int (0 : Int32)), .val (.int (0 : Int32))]) at_152 rfl rfl ?_
      refine r_iload C (pc' := 156) at_154 rfl rfl ?_
      refine r_iload C (pc' := 158) at_156 rfl rfl ?_
      refine r_icmp_ne_f C (pc' := 161) at_158 rfl (by decide) ?_
      refine r_iconst C (pc' := 162) (v := 1) at_161 rfl rfl ?_
      refine r_goto C (pc' := 166) at_162 (by decide) (by decide) ?_
      exact r_zreturn C at_166 rfl (by decide) (by decide) (Nat.le_refl _) (fun _ _ => rfl)
    · rw [e]
      show Run _ _ _ _ _ _ _ _ 131 #[.val (.int p0), .val (.int p1), .val (.int p2), .val (.int (i32 a0')), .val (.int (i32 a1')), .val (.int (i32 y0)), .val (.int (i32 y1)), .val (.int (i32 la)), .val (.int (i32 lb)), .val (.int (i32 md)), .val (.ref a), .val (.ref a2), .val (.int (1 : Int32)), .unset, .unset] [.int (1 : Int32)]
      refine r_istore C (pc' := 133) (Ls' := #[.val (.int p0), .val (.int p1), .val (.int p2), .val (.int (i32 a0')), .val (.int (i32 a1')), .val (.int (i32 y0)), .val (.int (i32 y1)), .val (.int (i32 la)), .val (.int (i32 lb)), .val (.int (i32 md)), .val (.ref a), .val (.ref a2), .val (.int (1 : Int32)), .val (.int (1 : Int32)), .unset]) at_131 rfl rfl ?_
      refine r_iload C (pc' := 135) at_133 rfl rfl ?_
      refine r_if_ge_t C (pc' := 142) at_135 (by decide) (by decide) (by decide) ?_
      refine r_iload C (pc' := 144) at_142 rfl rfl ?_
      refine r_if_le_f C (pc' := 147) at_144 rfl (by decide) ?_
      refine r_iconst C (pc' := 148) (v := 1) at_147 rfl rfl ?_
      refine r_goto C (pc' := 152) at_148 (by decide) (by decide) ?_
      refine r_istore C (pc' := 154) (Ls' := #[.val (.int p0), .val (.int p1), .val (.int p2), .val (.int (i32 a0')), .val (.int (i32 a1')), .val (.int (i32 y0)), .val (.int (i32 y1)), .val (.int (i32 la)), .val (.int (i32 lb)), .val (.int (i32 md)), .val (.ref a), .val (.ref a2), .val (.int (1 : Int32)), .val (.int (1 : Int32)), .val (.int (1 : Int32))]) at_152 rfl rfl ?_
      refine r_iload C (pc' := 156) at_154 rfl rfl ?_
      refine r_iload C (pc' := 158) at_156 rfl rfl ?_
      refine r_icmp_ne_f C (pc' := 161) at_158 rfl (by decide) ?_
      refine r_iconst C (pc' := 162) (v := 1) at_161 rfl rfl ?_
      refine r_goto C (pc' := 166) at_162 (by decide) (by decide) ?_
      exact r_zreturn C at_166 rfl (by decide) (by decide) (Nat.le_refl _) (fun _ _ => rfl)
  rcases (by omega : md = 0 ∨ md = 1 ∨ md = 2 ∨ md = 3) with rfl | rfl | rfl | rfl
  ·
    skip
    show Run _ _ _ _ _ h0 _ _ 56 #[.val (.int p0), .val (.int p1), .val (.int p2), .val (.int (i32 a0')), .val (.int (i32 a1')), .val (.int (i32 b0')), .val (.int (i32 b1')), .val (.int (i32 la)), .val (.int (i32 lb)), .val (.int (0 : Int32)), .unset, .unset, .unset, .unset, .unset] []
    refine r_iload C (pc' := 58) at_56 rfl rfl ?_
    refine r_iconst C (pc' := 59) (v := 1) at_58 rfl rfl ?_
    refine r_icmp_eq_f C (pc' := 62) at_59 rfl (by decide) ?_
    refine r_iload C (pc' := 64) at_62 rfl rfl ?_
    refine r_iconst C (pc' := 65) (v := 2) at_64 rfl rfl ?_
    refine r_icmp_ne_t C (pc' := 71) at_65 (by decide) (by decide) (by decide) ?_
    refine r_iload C (pc' := 73) at_71 rfl rfl ?_
    refine r_iconst C (pc' := 74) (v := 2) at_73 rfl rfl ?_
    refine r_icmp_eq_f C (pc' := 77) at_74 rfl (by decide) ?_
    refine r_iload C (pc' := 79) at_77 rfl rfl ?_
    refine r_iconst C (pc' := 80) (v := 3) at_79 rfl rfl ?_
    refine r_icmp_ne_t C (pc' := 87) at_80 (by decide) (by decide) (by decide) ?_
    exact rest b0' b1' (by omega) (by omega)
  ·
    skip
    show Run _ _ _ _ _ h0 _ _ 56 #[.val (.int p0), .val (.int p1), .val (.int p2), .val (.int (i32 a0')), .val (.int (i32 a1')), .val (.int (i32 b0')), .val (.int (i32 b1')), .val (.int (i32 la)), .val (.int (i32 lb)), .val (.int (1 : Int32)), .unset, .unset, .unset, .unset, .unset] []
    refine r_iload C (pc' := 58) at_56 rfl rfl ?_
    refine r_iconst C (pc' := 59) (v := 1) at_58 rfl rfl ?_
    refine r_icmp_eq_t C (pc' := 68) at_59 (by decide) (by decide) (by decide) ?_
    refine r_iloadN C (pc' := 69) at_68 rfl rfl ?_
    refine r_istore C (pc' := 71) (Ls' := #[.val (.int p0), .val (.int p1), .val (.int p2), .val (.int (i32 a0')), .val (.int (i32 a1')), .val (.int (i32 a0')), .val (.int (i32 b1')), .val (.int (i32 la)), .val (.int (i32 lb)), .val (.int (1 : Int32)), .unset, .unset, .unset, .unset, .unset]) at_69 rfl rfl ?_
    refine r_iload C (pc' := 73) at_71 rfl rfl ?_
    refine r_iconst C (pc' := 74) (v := 2) at_73 rfl rfl ?_
    refine r_icmp_eq_f C (pc' := 77) at_74 rfl (by decide) ?_
    refine r_iload C (pc' := 79) at_77 rfl rfl ?_
    refine r_iconst C (pc' := 80) (v := 3) at_79 rfl rfl ?_
    refine r_icmp_ne_t C (pc' := 87) at_80 (by decide) (by decide) (by decide) ?_
    exact rest a0' b1' (by omega) (by omega)
  ·
    skip
    show Run _ _ _ _ _ h0 _ _ 56 #[.val (.int p0), .val (.int p1), .val (.int p2), .val (.int (i32 a0')), .val (.int (i32 a1')), .val (.int (i32 b0')), .val (.int (i32 b1')), .val (.int (i32 la)), .val (.int (i32 lb)), .val (.int (2 : Int32)), .unset, .unset, .unset, .unset, .unset] []
    refine r_iload C (pc' := 58) at_56 rfl rfl ?_
    refine r_iconst C (pc' := 59) (v := 1) at_58 rfl rfl ?_
    refine r_icmp_eq_f C (pc' := 62) at_59 rfl (by decide) ?_
    refine r_iload C (pc' := 64) at_62 rfl rfl ?_
    refine r_iconst C (pc' := 65) (v := 2) at_64 rfl rfl ?_
    refine r_icmp_ne_f C (pc' := 68) at_65 rfl (by decide) ?_
    refine r_iloadN C (pc' := 69) at_68 rfl rfl ?_
    refine r_istore C (pc' := 71) (Ls' := #[.val (.int p0), .val (.int p1), .val (.int p2), .val (.int (i32 a0')), .val (.int (i32 a1')), .val (.int (i32 a0')), .val (.int (i32 b1')), .val (.int (i32 la)), .val (.int (i32 lb)), .val (.int (2 : Int32)), .unset, .unset, .unset, .unset, .unset]) at_69 rfl rfl ?_
    refine r_iload C (pc' := 73) at_71 rfl rfl ?_
    refine r_iconst C (pc' := 74) (v := 2) at_73 rfl rfl ?_
    refine r_icmp_eq_t C (pc' := 83) at_74 (by decide) (by decide) (by decide) ?_
    refine r_iload C (pc' := 85) at_83 rfl rfl ?_
    refine r_istore C (pc' := 87) (Ls' := #[.val (.int p0), .val (.int p1), .val (.int p2), .val (.int (i32 a0')), .val (.int (i32 a1')), .val (.int (i32 a0')), .val (.int (i32 a1')), .val (.int (i32 la)), .val (.int (i32 lb)), .val (.int (2 : Int32)), .unset, .unset, .unset, .unset, .unset]) at_85 rfl rfl ?_
    exact rest a0' a1' (by omega) (by omega)
  ·
    skip
    show Run _ _ _ _ _ h0 _ _ 56 #[.val (.int p0), .val (.int p1), .val (.int p2), .val (.int (i32 a0')), .val (.int (i32 a1')), .val (.int (i32 b0')), .val (.int (i32 b1')), .val (.int (i32 la)), .val (.int (i32 lb)), .val (.int (3 : Int32)), .unset, .unset, .unset, .unset, .unset] []
    refine r_iload C (pc' := 58) at_56 rfl rfl ?_
    refine r_iconst C (pc' := 59) (v := 1) at_58 rfl rfl ?_
    refine r_icmp_eq_f C (pc' := 62) at_59 rfl (by decide) ?_
    refine r_iload C (pc' := 64) at_62 rfl rfl ?_
    refine r_iconst C (pc' := 65) (v := 2) at_64 rfl rfl ?_
    refine r_icmp_ne_t C (pc' := 71) at_65 (by decide) (by decide) (by decide) ?_
    refine r_iload C (pc' := 73) at_71 rfl rfl ?_
    refine r_iconst C (pc' := 74) (v := 2) at_73 rfl rfl ?_
    refine r_icmp_eq_f C (pc' := 77) at_74 rfl (by decide) ?_
    refine r_iload C (pc' := 79) at_77 rfl rfl ?_
    refine r_iconst C (pc' := 80) (v := 3) at_79 rfl rfl ?_
    refine r_icmp_ne_f C (pc' := 83) at_80 rfl (by decide) ?_
    refine r_iload C (pc' := 85) at_83 rfl rfl ?_
    refine r_istore C (pc' := 87) (Ls' := #[.val (.int p0), .val (.int p1), .val (.int p2), .val (.int (i32 a0')), .val (.int (i32 a1')), .val (.int (i32 b0')), .val (.int (i32 a1')), .val (.int (i32 la)), .val (.int (i32 lb)), .val (.int (3 : Int32)), .unset, .unset, .unset, .unset, .unset]) at_85 rfl rfl ?_
    exact rest b0' a1' (by omega) (by omega)
set_option maxRecDepth 65536 in
set_option maxHeartbeats 40000000 in
theorem comes_1 {Post : Tables → Env → Array Value → State → Outcome → State → Prop} (hpost : ∀ tb e args s v u, (limb_1_1.after args s (.returned v) u = true ∧ limb_1_2.after args s (.returned v) u = true ∧ True) → ReturnedEndW s (.returned v) u (Jvm.fieldLocs frame_1_writes args s ++ Jvm.arrayLocs frame_1_arrays args s ++ Jvm.staticLocs frame_1_statics s) 32 1152 → Post tb e args s (.returned v) u) :
    ArmFor flags0 classFile x code maxLocals ret World_1 tables_1 room_1 Calls_1 rest_1 Pre_1 Post := by
  intro l hfl _ _ p e ha hc hk s m args below hf hA hF happ hP
  obtain ⟨hcalls, hrest, hpre⟩ := hP
  obtain ⟨-, -, -, hnamed, -, -, -, hat⟩ := (Spec.applies_iff hf).mp happ
  obtain ⟨hg, hn⟩ := and_e (Cond.before_iff.mp (show (Jvm.Cond.and given_1 narrow_1).before args s = true from hpre))
  obtain ⟨h1, g0⟩ := and_e hg
  obtain ⟨k0, g1⟩ := and_e g0
  obtain ⟨k1, g2⟩ := and_e g1
  obtain ⟨w0, w1, w2, rfl⟩ : ∃ w0 w1 w2 : Value, args = #[w0, w1, w2] := by
    have hs : args.size = 3 := by simpa [Cond.value, given_1] using h1
    obtain ⟨L⟩ := args
    match L, hs with
    | [w0, w1, w2], _ => exact ⟨w0, w1, w2, rfl⟩
  have hw := fun d (hd : d ∈ tables_1) => atoms_spec (ws := Jvm.Cond.code x code maxLocals ret :: tables_1) hat d (List.mem_cons_of_mem _ hd)
  obtain ⟨hsets, hown0⟩ := atoms_of _ (rest_1_c_eq ▸ (show rest_1_c.before _ s = true from hrest))
  have hfit : Fit s := fun {y c} hc i hi => by
    obtain ⟨ha, rfl⟩ := Array.getElem?_eq_some_iff.mp hc
    have q := List.all_eq_true.mp ((Array.all_eq_true_iff_forall_mem.mp hF) _ (Array.getElem_mem ha)) i (List.mem_range.mpr hi)
    simpa [Array.getElem?_eq_getElem hi] using q
  obtain ⟨i0, e0⟩ := is_v k0
  obtain rfl : w0 = (.int i0) := Option.some.inj e0
  obtain ⟨i1, e1⟩ := is_v k1
  obtain rfl : w1 = (.int i1) := Option.some.inj e1
  obtain ⟨i2, e2⟩ := is_v g2
  obtain rfl : w2 = (.int i2) := Option.some.inj e2
  obtain ⟨cc, fv, ss⟩ := own_ss hsets
  obtain ⟨n, o, h1, h2, h3, _, L, rfl, ⟨rfl, N⟩, hq⟩ := rm0 l s _ hw s.heap.size s.heap i0 i1 i2 cc fv ss (Old.start s) (own_su hsets) (Nat.le_refl _) (hcalls.1 _ (List.mem_of_getElem? (i := 0) rfl)) (hsets _ (List.mem_of_getElem? (i := 2) rfl)) p e ha hc hk s m _ below hf ((Spec.applies_iff_loose hf).mp happ).1 ⟨rfl, State.Warmed39.refl s, rfl, IB.start⟩ trivial
  refine ⟨n, _, h1, h2, h3, hpost _ _ _ _ _ _ ⟨Cond.after_iff.mpr rfl, Cond.after_iff.mpr (eq_i res_at (Term.int_eval (1)) rfl), trivial⟩ ⟨hq.1, hq.2.1, hq.2.2.1, (hq.2.2.2.sift fun y hy => Or.inr (N y hy)).mono (by decide) (by decide)⟩⟩
theorem main_1_1 : Claimed_1_1 := comes_1 fun _ _ _ _ _ _ h hF => ⟨h.1, hF⟩
theorem main_1_2 : Claimed_1_2 := comes_1 fun _ _ _ _ _ _ h hF => ⟨h.2.1, hF⟩
end Jvm.Pilot.@@N@@
namespace Jvm.Pilot.@@N@@
open Jvm Jvm.ClassFile Sem Op Lib Jvm.Free Jvm.Stand Jvm.Pilot.@@N@@.Jvm.D
/-! MADE BY PROGRAM (witnessworld.py) out of the Statement's table words and the real class files: 24 classes; the members and pool entries that the words name. The judged class is class 1, her method 1. -/
namespace start1
open Jvm.ClassFile
def u (s : String) : CpInfo := .utf8 (stringToUtf16 s)
/-- a pool by its gaps: so many unusable entries, then the entry; so many at the end -/
def gap : Nat → List CpInfo → List CpInfo
  | 0, r => r
  | n + 1, r => .unusable :: gap n r
def poolList (es : List (Nat × CpInfo)) (last : Nat) : List CpInfo := es.foldr (fun e r => gap e.1 (e.2 :: r)) (gap last [])
def pool (es : List (Nat × CpInfo)) (last : Nat) : Array CpInfo := ⟨poolList es last⟩
def fileOf (pool : Array CpInfo) (this : Nat) (attrs : Array Attribute := #[]) (ms : Array MethodInfo := #[]) (fl : Nat := 33) (sup : Nat := 0) (ifs : Array Nat := #[]) (fds : Array FieldInfo := #[]) : ClassFile where
  minorVersion := 0
  majorVersion := 65
  constantPool := pool
  accessFlags := fl
  thisClass := this
  superClass := sup
  interfaces := ifs
  fields := fds
  methods := ms
  attributes := attrs
def plain (name : String) (sup : Option ClassId) : Class where
  name := name
  kind := .ordinary
  loader := none
  accessFlags := 33
  super := sup
  interfaces := #[]
  cf := none
  fields := #[]
  methods := #[]
  instanceTypes := #[]
  staticTypes := #[]
  resolved := #[]
  callSites := []
  init := .initialized
  statics := none
  mirror := none

def pool0 : Array CpInfo := pool [(5, u "<init>"), (0, u "()V"), (1, .class_ 10), (1, u "java/lang/Object")] 113

def k0c0 : Code := { maxStack := 0, maxLocals := 1, code := object_method_1_code, exceptionTable := #[], attributes := #[] }
def k0m0 : Method := { name := "<init>", desc := "()V", sig := { parameters := [], returnType := none }, accessFlags := 1, code := some k0c0 }
/-- java/lang/Object -/
def k0 : Class := { plain "java/lang/Object" none with
  accessFlags := 33
  interfaces := #[]
  cf := some (fileOf pool0 8 #[] #[{ accessFlags := 1, nameIndex := 5, descriptorIndex := 6, attributes := #[] }] 33 0 #[] #[])
  fields := #[]
  methods := #[k0m0]
  instanceTypes := #[]
  staticTypes := #[]
  resolved := Array.replicate 124 none
  statics := none }

def pool1 : Array CpInfo := pool [(2, .class_ 4), (1, u "java/lang/Object"), (0, u "<init>"), (0, u "()V"), (0, .integer 65535), (0, .methodref 9 10), (0, .class_ 11), (0, .nameAndType 12 13), (0, u "com/example/heredity/heredity/CodePointOrderComparePinLaw"), (0, u "str"), (0, u "(ICC)Ljava/lang/String;"), (0, .methodref 9 15), (0, .nameAndType 16 17), (0, u "ref"), (0, u "(ICCICC)I"), (0, .methodref 19 20), (0, .class_ 21), (0, .nameAndType 22 23), (0, u "com/example/heredity/heredity/CodePointOrder"), (0, u "compare"), (0, u "(Ljava/lang/String;Ljava/lang/String;)I"), (0, .class_ 25), (0, u "java/lang/String"), (0, .methodref 24 27), (0, .nameAndType 5 28), (0, u "([C)V"), (0, .integer 55296), (0, .integer 57343), (0, .integer 57344), (0, .methodref 9 33), (0, .nameAndType 34 35), (0, u "key"), (0, u "(C)I"), (0, .methodref 37 38), (0, .class_ 39), (0, .nameAndType 40 41), (0, u "java/lang/Math"), (0, u "min"), (0, u "(II)I"), (0, .methodref 9 43), (0, .nameAndType 44 45), (0, u "cmpKeys"), (0, u "(CC)I"), (2, u "law"), (0, u "(III)Z")] 3

def k1m0 : Method := { name := "<init>", desc := "()V", sig := { parameters := [], returnType := none }, accessFlags := 2, code := none }
def k1c1 : Code := { maxStack := 6, maxLocals := 15, code := code, exceptionTable := #[], attributes := #[] }
def k1m1 : Method := { name := "law", desc := "(III)Z", sig := { parameters := [.int, .int, .int], returnType := some .boolean }, accessFlags := 9, code := some k1c1 }
def k1c2 : Code := { maxStack := 6, maxLocals := 3, code := method_3_code, exceptionTable := #[], attributes := #[] }
def k1m2 : Method := { name := "str", desc := "(ICC)Ljava/lang/String;", sig := { parameters := [.int, .char, .char], returnType := some (.object "java/lang/String") }, accessFlags := 10, code := some k1c2 }
def k1c3 : Code := { maxStack := 2, maxLocals := 2, code := method_4_code, exceptionTable := #[], attributes := #[] }
def k1m3 : Method := { name := "key", desc := "(C)I", sig := { parameters := [.char], returnType := some .int }, accessFlags := 10, code := some k1c3 }
def k1c4 : Code := { maxStack := 2, maxLocals := 4, code := method_5_code, exceptionTable := #[], attributes := #[] }
def k1m4 : Method := { name := "cmpKeys", desc := "(CC)I", sig := { parameters := [.char, .char], returnType := some .int }, accessFlags := 10, code := some k1c4 }
def k1c5 : Code := { maxStack := 2, maxLocals := 7, code := method_6_code, exceptionTable := #[], attributes := #[] }
def k1m5 : Method := { name := "ref", desc := "(ICCICC)I", sig := { parameters := [.int, .char, .char, .int, .char, .char], returnType := some .int }, accessFlags := 10, code := some k1c5 }
/-- com/example/heredity/heredity/CodePointOrderComparePinLaw -/
def k1 : Class := { plain "com/example/heredity/heredity/CodePointOrderComparePinLaw" (some 0) with
  accessFlags := 49
  interfaces := #[]
  cf := some (fileOf pool1 9 #[] #[{ accessFlags := 2, nameIndex := 5, descriptorIndex := 6, attributes := #[] }, { accessFlags := 9, nameIndex := 48, descriptorIndex := 49, attributes := #[] }, { accessFlags := 10, nameIndex := 12, descriptorIndex := 13, attributes := #[] }, { accessFlags := 10, nameIndex := 34, descriptorIndex := 35, attributes := #[] }, { accessFlags := 10, nameIndex := 44, descriptorIndex := 45, attributes := #[] }, { accessFlags := 10, nameIndex := 16, descriptorIndex := 17, attributes := #[] }] 49 2 #[] #[])
  fields := #[]
  methods := #[k1m0, k1m1, k1m2, k1m3, k1m4, k1m5]
  instanceTypes := #[]
  staticTypes := #[]
  resolved := Array.replicate 53 none
  statics := none }

def pool2 : Array CpInfo := pool [(1, .class_ 2), (0, u "java/io/Serializable"), (0, .class_ 4), (0, u "java/lang/Object")] 2

/-- java/io/Serializable -/
def k2 : Class := { plain "java/io/Serializable" (some 0) with
  accessFlags := 1537
  interfaces := #[]
  cf := some (fileOf pool2 1 #[] #[] 1537 3 #[] #[])
  fields := #[]
  methods := #[]
  instanceTypes := #[]
  staticTypes := #[]
  resolved := Array.replicate 7 none
  statics := none }

def pool3 : Array CpInfo := pool [(1, .class_ 2), (0, u "java/lang/Comparable"), (0, .class_ 4), (0, u "java/lang/Object")] 7

/-- java/lang/Comparable -/
def k3 : Class := { plain "java/lang/Comparable" (some 0) with
  accessFlags := 1537
  interfaces := #[]
  cf := some (fileOf pool3 1 #[] #[] 1537 3 #[] #[])
  fields := #[]
  methods := #[]
  instanceTypes := #[]
  staticTypes := #[]
  resolved := Array.replicate 12 none
  statics := none }

def pool4 : Array CpInfo := pool [(2, .class_ 4), (1, u "java/lang/CharSequence"), (42, .class_ 48), (0, u "java/lang/CharSequence$1CodePointIterator"), (10, .class_ 60), (0, u "java/lang/CharSequence$1CharIterator"), (5, .class_ 67), (0, u "java/lang/Object")] 63

/-- java/lang/CharSequence -/
def k4 : Class := { plain "java/lang/CharSequence" (some 0) with
  accessFlags := 1537
  interfaces := #[]
  cf := some (fileOf pool4 2 #[.nestMembers #[47, 59]] #[] 1537 66 #[] #[])
  fields := #[]
  methods := #[]
  instanceTypes := #[]
  staticTypes := #[]
  resolved := Array.replicate 131 none
  statics := none }

def pool5 : Array CpInfo := pool [(1, .class_ 2), (0, u "java/lang/constant/Constable"), (0, .class_ 4), (0, u "java/lang/Object")] 6

/-- java/lang/constant/Constable -/
def k5 : Class := { plain "java/lang/constant/Constable" (some 0) with
  accessFlags := 1537
  interfaces := #[]
  cf := some (fileOf pool5 1 #[] #[] 1537 3 #[] #[])
  fields := #[]
  methods := #[]
  instanceTypes := #[]
  staticTypes := #[]
  resolved := Array.replicate 11 none
  statics := none }

def pool6 : Array CpInfo := pool [(1, .class_ 2), (0, u "java/lang/constant/ConstantDesc"), (0, .class_ 4), (0, u "java/lang/Object")] 32

/-- java/lang/constant/ConstantDesc -/
def k6 : Class := { plain "java/lang/constant/ConstantDesc" (some 0) with
  accessFlags := 1537
  interfaces := #[]
  cf := some (fileOf pool6 1 #[] #[] 1537 3 #[] #[])
  fields := #[]
  methods := #[]
  instanceTypes := #[]
  staticTypes := #[]
  resolved := Array.replicate 37 none
  statics := none }

def pool7 : Array CpInfo := pool [(1, .methodref 2 3), (0, .class_ 4), (0, .nameAndType 5 6), (0, u "java/lang/Object"), (0, u "<init>"), (0, u "()V"), (0, .string 8), (0, u ""), (0, .fieldref 10 11), (0, .class_ 12), (0, .nameAndType 13 14), (0, u "java/lang/String"), (0, u "value"), (0, u "[B"), (0, .fieldref 10 16), (0, .nameAndType 17 18), (0, u "coder"), (0, u "B"), (2, u "hash"), (0, u "I"), (2, u "hashIsZero"), (0, u "Z"), (0, .methodref 10 28), (0, .nameAndType 5 29), (0, u "([CIILjava/lang/Void;)V"), (8, .fieldref 10 39), (0, .nameAndType 40 26), (0, u "COMPACT_STRINGS"), (1, .class_ 44), (1, u "java/lang/StringUTF16"), (0, u "compress"), (1, .methodref 42 48), (0, .nameAndType 49 50), (0, u "coderFromArrayLen"), (0, u "([BI)B"), (56, .class_ 109), (1, u "java/lang/StringLatin1"), (32, u "()Z"), (34, .methodref 42 178), (0, .nameAndType 45 179), (0, u "([CII)[B"), (154, u "()I"), (0, .methodref 10 336), (0, .nameAndType 17 337), (0, u "()B"), (25, u "([BI)C"), (27, u "(II)V"), (35, u "(I)C"), (64, .methodref 10 493), (0, .nameAndType 494 142), (0, u "isLatin1"), (0, .methodref 107 496), (0, .nameAndType 497 363), (0, u "charAt"), (0, .methodref 42 496), (2, u "checkIndex"), (5, u "length"), (67, .class_ 576), (0, u "java/lang/CharSequence"), (22, u "CASE_INSENSITIVE_ORDER"), (0, u "Ljava/util/Comparator;"), (409, u "([C)V"), (42, .fieldref 1054 1055), (0, .class_ 1056), (0, .nameAndType 1057 1058), (0, u "jdk/internal/util/Preconditions"), (0, u "SIOOBE_FORMATTER"), (0, u "Ljava/util/function/BiFunction;"), (0, .methodref 1054 1060), (0, .nameAndType 501 1061), (0, u "(IILjava/util/function/BiFunction;)I"), (39, u "serialPersistentFields"), (0, u "[Ljava/io/ObjectStreamField;"), (0, .class_ 1104), (0, u "java/lang/String$CaseInsensitiveComparator"), (1, .class_ 1107), (0, u "java/io/Serializable"), (0, .class_ 1109), (0, u "java/lang/Comparable"), (0, .class_ 1111), (0, u "java/lang/constant/Constable"), (0, .class_ 1113), (0, u "java/lang/constant/ConstantDesc"), (2, u "serialVersionUID"), (0, u "J"), (3, u "REPL"), (0, u "C"), (2, u "LATIN1"), (1, u "UTF16")] 323

def k7m0 : Method := { name := "<init>", desc := "()V", sig := { parameters := [], returnType := none }, accessFlags := 1, code := none }
def k7c1 : Code := { maxStack := 5, maxLocals := 2, code := jdk_42_method_3_code, exceptionTable := #[], attributes := #[] }
def k7m1 : Method := { name := "<init>", desc := "([C)V", sig := { parameters := [(.array .char)], returnType := none }, accessFlags := 1, code := some k7c1 }
def k7c2 : Code := { maxStack := 2, maxLocals := 1, code := jdk_42_method_54_code, exceptionTable := #[], attributes := #[] }
def k7m2 : Method := { name := "length", desc := "()I", sig := { parameters := [], returnType := some .int }, accessFlags := 1, code := some k7c2 }
def k7c3 : Code := { maxStack := 2, maxLocals := 2, code := jdk_42_method_56_code, exceptionTable := #[], attributes := #[] }
def k7m3 : Method := { name := "charAt", desc := "(I)C", sig := { parameters := [.int], returnType := some .char }, accessFlags := 1, code := some k7c3 }
def k7c4 : Code := { maxStack := 4, maxLocals := 6, code := jdk_42_method_149_code, exceptionTable := #[], attributes := #[] }
def k7m4 : Method := { name := "<init>", desc := "([CIILjava/lang/Void;)V", sig := { parameters := [(.array .char), .int, .int, (.object "java/lang/Void")], returnType := none }, accessFlags := 2, code := some k7c4 }
def k7c5 : Code := { maxStack := 1, maxLocals := 1, code := jdk_42_method_152_code, exceptionTable := #[], attributes := #[] }
def k7m5 : Method := { name := "coder", desc := "()B", sig := { parameters := [], returnType := some .byte }, accessFlags := 0, code := some k7c5 }
def k7c6 : Code := { maxStack := 1, maxLocals := 1, code := jdk_42_method_154_code, exceptionTable := #[], attributes := #[] }
def k7m6 : Method := { name := "isLatin1", desc := "()Z", sig := { parameters := [], returnType := some .boolean }, accessFlags := 0, code := some k7c6 }
def k7c7 : Code := { maxStack := 3, maxLocals := 2, code := jdk_42_method_155_code, exceptionTable := #[], attributes := #[] }
def k7m7 : Method := { name := "checkIndex", desc := "(II)V", sig := { parameters := [.int, .int], returnType := none }, accessFlags := 8, code := some k7c7 }
/-- java/lang/String -/
def k7 : Class := { plain "java/lang/String" (some 0) with
  accessFlags := 49
  interfaces := #[2, 3, 4, 5, 6]
  cf := some (fileOf pool7 10 #[.nestMembers #[1103]] #[{ accessFlags := 1, nameIndex := 5, descriptorIndex := 6, attributes := #[] }, { accessFlags := 1, nameIndex := 5, descriptorIndex := 1010, attributes := #[] }, { accessFlags := 1, nameIndex := 507, descriptorIndex := 334, attributes := #[] }, { accessFlags := 1, nameIndex := 497, descriptorIndex := 427, attributes := #[] }, { accessFlags := 2, nameIndex := 5, descriptorIndex := 29, attributes := #[] }, { accessFlags := 0, nameIndex := 17, descriptorIndex := 337, attributes := #[] }, { accessFlags := 0, nameIndex := 494, descriptorIndex := 142, attributes := #[] }, { accessFlags := 8, nameIndex := 501, descriptorIndex := 391, attributes := #[] }] 49 2 #[1106, 1108, 575, 1110, 1112] #[{ accessFlags := 18, nameIndex := 13, descriptorIndex := 14, attributes := #[] }, { accessFlags := 18, nameIndex := 17, descriptorIndex := 18, attributes := #[] }, { accessFlags := 2, nameIndex := 21, descriptorIndex := 22, attributes := #[] }, { accessFlags := 2, nameIndex := 25, descriptorIndex := 26, attributes := #[] }, { accessFlags := 26, nameIndex := 1116, descriptorIndex := 1117, attributes := #[] }, { accessFlags := 24, nameIndex := 40, descriptorIndex := 26, attributes := #[] }, { accessFlags := 26, nameIndex := 1101, descriptorIndex := 1102, attributes := #[] }, { accessFlags := 26, nameIndex := 1121, descriptorIndex := 1122, attributes := #[] }, { accessFlags := 25, nameIndex := 599, descriptorIndex := 600, attributes := #[] }, { accessFlags := 24, nameIndex := 1125, descriptorIndex := 18, attributes := #[] }, { accessFlags := 24, nameIndex := 1127, descriptorIndex := 18, attributes := #[] }])
  fields := #[{ name := "value", type := (.array .byte), accessFlags := 18, slot := 0, constantValue := 0 }, { name := "coder", type := .byte, accessFlags := 18, slot := 1, constantValue := 0 }, { name := "hash", type := .int, accessFlags := 2, slot := 2, constantValue := 0 }, { name := "hashIsZero", type := .boolean, accessFlags := 2, slot := 3, constantValue := 0 }, { name := "serialVersionUID", type := .long, accessFlags := 26, slot := 0, constantValue := 0 }, { name := "COMPACT_STRINGS", type := .boolean, accessFlags := 24, slot := 1, constantValue := 0 }, { name := "serialPersistentFields", type := (.array (.object "java/io/ObjectStreamField")), accessFlags := 26, slot := 2, constantValue := 0 }, { name := "REPL", type := .char, accessFlags := 26, slot := 3, constantValue := 0 }, { name := "CASE_INSENSITIVE_ORDER", type := (.object "java/util/Comparator"), accessFlags := 25, slot := 4, constantValue := 0 }, { name := "LATIN1", type := .byte, accessFlags := 24, slot := 5, constantValue := 0 }, { name := "UTF16", type := .byte, accessFlags := 24, slot := 6, constantValue := 0 }]
  methods := #[k7m0, k7m1, k7m2, k7m3, k7m4, k7m5, k7m6, k7m7]
  instanceTypes := #[(.array .byte), .byte, .int, .boolean]
  staticTypes := #[.long, .boolean, (.array (.object "java/io/ObjectStreamField")), .char, (.object "java/util/Comparator"), .byte, .byte]
  resolved := Array.replicate 1451 none
  statics := some 0 }

def pool8 : Array CpInfo := pool [(3, .class_ 4), (0, u "java/lang/String"), (1, .class_ 8), (1, u "java/lang/Object"), (0, u "<init>"), (0, u "()V"), (0, .methodref 12 13), (0, .class_ 14), (0, .nameAndType 15 16), (0, u "java/lang/StringUTF16"), (0, u "newBytesLength"), (0, u "(I)I"), (3, .integer 1073741823), (23, .fieldref 12 45), (0, .nameAndType 46 47), (0, u "$assertionsDisabled"), (0, u "Z"), (0, .methodref 12 49), (0, .nameAndType 50 51), (0, u "length"), (0, u "([B)I"), (7, .fieldref 12 60), (0, .nameAndType 61 62), (0, u "HI_BYTE_SHIFT"), (0, u "I"), (0, .fieldref 12 64), (0, .nameAndType 65 62), (0, u "LO_BYTE_SHIFT"), (1, .methodref 12 68), (0, .nameAndType 69 70), (0, u "checkIndex"), (0, u "(I[B)V"), (0, .methodref 12 72), (0, .nameAndType 73 74), (0, u "getChar"), (0, u "([BI)C"), (32, .methodref 12 108), (0, .nameAndType 109 110), (0, u "newBytesFor"), (0, u "(I)[B"), (0, .methodref 12 112), (0, .nameAndType 113 114), (0, u "putChar"), (0, u "([BII)V"), (0, .methodref 12 116), (0, .nameAndType 117 118), (0, u "compress"), (0, u "([CI[BII)I"), (0, .methodref 12 120), (0, .nameAndType 121 122), (0, u "toBytes"), (0, u "([CII)[B"), (138, u "coderFromArrayLen"), (0, u "([BI)B"), (106, .class_ 371), (1, u "java/lang/StringUTF16$LinesSpliterator"), (20, u "charAt"), (21, .methodref 3 415), (0, .nameAndType 69 416), (0, u "(II)V"), (13, u "MAX_LENGTH"), (196, .class_ 628), (0, u "java/lang/StringUTF16$CodePointsSpliterator"), (0, .class_ 630), (0, u "java/lang/StringUTF16$CharsSpliterator")] 4

def k8m0 : Method := { name := "<init>", desc := "()V", sig := { parameters := [], returnType := none }, accessFlags := 0, code := none }
def k8c1 : Code := { maxStack := 1, maxLocals := 1, code := jdk_52_method_2_code, exceptionTable := #[], attributes := #[] }
def k8m1 : Method := { name := "newBytesFor", desc := "(I)[B", sig := { parameters := [.int], returnType := some (.array .byte) }, accessFlags := 9, code := some k8c1 }
def k8c2 : Code := { maxStack := 4, maxLocals := 1, code := jdk_52_method_3_code, exceptionTable := #[], attributes := #[] }
def k8m2 : Method := { name := "newBytesLength", desc := "(I)I", sig := { parameters := [.int], returnType := some .int }, accessFlags := 9, code := some k8c2 }
def k8c3 : Code := { maxStack := 4, maxLocals := 3, code := jdk_52_method_4_code, exceptionTable := #[], attributes := #[] }
def k8m3 : Method := { name := "putChar", desc := "([BII)V", sig := { parameters := [(.array .byte), .int, .int], returnType := none }, accessFlags := 8, code := some k8c3 }
def k8c4 : Code := { maxStack := 3, maxLocals := 2, code := jdk_52_method_5_code, exceptionTable := #[], attributes := #[] }
def k8m4 : Method := { name := "getChar", desc := "([BI)C", sig := { parameters := [(.array .byte), .int], returnType := some .char }, accessFlags := 8, code := some k8c4 }
def k8c5 : Code := { maxStack := 2, maxLocals := 1, code := jdk_52_method_6_code, exceptionTable := #[], attributes := #[] }
def k8m5 : Method := { name := "length", desc := "([B)I", sig := { parameters := [(.array .byte)], returnType := some .int }, accessFlags := 9, code := some k8c5 }
def k8c6 : Code := { maxStack := 4, maxLocals := 5, code := jdk_52_method_14_code, exceptionTable := #[], attributes := #[] }
def k8m6 : Method := { name := "toBytes", desc := "([CII)[B", sig := { parameters := [(.array .char), .int, .int], returnType := some (.array .byte) }, accessFlags := 9, code := some k8c6 }
def k8c7 : Code := { maxStack := 2, maxLocals := 2, code := jdk_52_method_15_code, exceptionTable := #[], attributes := #[] }
def k8m7 : Method := { name := "coderFromArrayLen", desc := "([BI)B", sig := { parameters := [(.array .byte), .int], returnType := some .byte }, accessFlags := 8, code := some k8c7 }
def k8c8 : Code := { maxStack := 5, maxLocals := 6, code := jdk_52_method_16_code, exceptionTable := #[], attributes := #[] }
def k8m8 : Method := { name := "compress", desc := "([CII)[B", sig := { parameters := [(.array .char), .int, .int], returnType := some (.array .byte) }, accessFlags := 9, code := some k8c8 }
def k8c9 : Code := { maxStack := 3, maxLocals := 7, code := jdk_52_method_21_code, exceptionTable := #[], attributes := #[] }
def k8m9 : Method := { name := "compress", desc := "([CI[BII)I", sig := { parameters := [(.array .char), .int, (.array .byte), .int, .int], returnType := some .int }, accessFlags := 9, code := some k8c9 }
def k8c10 : Code := { maxStack := 2, maxLocals := 2, code := jdk_52_method_83_code, exceptionTable := #[], attributes := #[] }
def k8m10 : Method := { name := "charAt", desc := "([BI)C", sig := { parameters := [(.array .byte), .int], returnType := some .char }, accessFlags := 9, code := some k8c10 }
def k8c11 : Code := { maxStack := 2, maxLocals := 2, code := jdk_52_method_91_code, exceptionTable := #[], attributes := #[] }
def k8m11 : Method := { name := "checkIndex", desc := "(I[B)V", sig := { parameters := [.int, (.array .byte)], returnType := none }, accessFlags := 9, code := some k8c11 }
/-- java/lang/StringUTF16 -/
def k8 : Class := { plain "java/lang/StringUTF16" (some 0) with
  accessFlags := 48
  interfaces := #[]
  cf := some (fileOf pool8 12 #[.nestMembers #[627, 629, 369]] #[{ accessFlags := 0, nameIndex := 9, descriptorIndex := 10, attributes := #[] }, { accessFlags := 9, nameIndex := 109, descriptorIndex := 110, attributes := #[] }, { accessFlags := 9, nameIndex := 15, descriptorIndex := 16, attributes := #[] }, { accessFlags := 8, nameIndex := 113, descriptorIndex := 114, attributes := #[] }, { accessFlags := 8, nameIndex := 73, descriptorIndex := 74, attributes := #[] }, { accessFlags := 9, nameIndex := 50, descriptorIndex := 51, attributes := #[] }, { accessFlags := 9, nameIndex := 121, descriptorIndex := 122, attributes := #[] }, { accessFlags := 8, nameIndex := 261, descriptorIndex := 262, attributes := #[] }, { accessFlags := 9, nameIndex := 117, descriptorIndex := 122, attributes := #[] }, { accessFlags := 9, nameIndex := 117, descriptorIndex := 118, attributes := #[] }, { accessFlags := 9, nameIndex := 392, descriptorIndex := 74, attributes := #[] }, { accessFlags := 9, nameIndex := 69, descriptorIndex := 70, attributes := #[] }] 48 6 #[] #[{ accessFlags := 26, nameIndex := 61, descriptorIndex := 62, attributes := #[] }, { accessFlags := 26, nameIndex := 65, descriptorIndex := 62, attributes := #[] }, { accessFlags := 24, nameIndex := 430, descriptorIndex := 62, attributes := #[] }, { accessFlags := 4120, nameIndex := 46, descriptorIndex := 47, attributes := #[] }])
  fields := #[{ name := "HI_BYTE_SHIFT", type := .int, accessFlags := 26, slot := 0, constantValue := 0 }, { name := "LO_BYTE_SHIFT", type := .int, accessFlags := 26, slot := 1, constantValue := 0 }, { name := "MAX_LENGTH", type := .int, accessFlags := 24, slot := 2, constantValue := 0 }, { name := "$assertionsDisabled", type := .boolean, accessFlags := 4120, slot := 3, constantValue := 0 }]
  methods := #[k8m0, k8m1, k8m2, k8m3, k8m4, k8m5, k8m6, k8m7, k8m8, k8m9, k8m10, k8m11]
  instanceTypes := #[]
  staticTypes := #[.int, .int, .int, .boolean]
  resolved := Array.replicate 635 none
  statics := some 1 }

def pool9 : Array CpInfo := pool [(1, .class_ 2), (0, u "java/lang/Math"), (1, .class_ 6), (1, u "java/lang/Object"), (0, u "<init>"), (0, u "()V"), (89, .class_ 100), (1, u "java/lang/Math$RandomNumberGeneratorHolder"), (71, u "negativeZeroFloatBits"), (0, u "J"), (2, u "negativeZeroDoubleBits"), (24, u "min"), (43, u "$assertionsDisabled"), (0, u "Z"), (88, u "(II)I"), (2, u "twoToTheDoubleScaleDown"), (0, u "D"), (4, u "twoToTheDoubleScaleUp"), (9, u "E"), (3, u "PI"), (2, u "TAU"), (2, u "DEGREES_TO_RADIANS"), (0, u "RADIANS_TO_DEGREES")] 94

def k9m0 : Method := { name := "<init>", desc := "()V", sig := { parameters := [], returnType := none }, accessFlags := 2, code := none }
def k9c1 : Code := { maxStack := 2, maxLocals := 2, code := jdk_29_method_69_code, exceptionTable := #[], attributes := #[] }
def k9m1 : Method := { name := "min", desc := "(II)I", sig := { parameters := [.int, .int], returnType := some .int }, accessFlags := 9, code := some k9c1 }
/-- java/lang/Math -/
def k9 : Class := { plain "java/lang/Math" (some 0) with
  accessFlags := 49
  interfaces := #[]
  cf := some (fileOf pool9 1 #[.nestMembers #[98]] #[{ accessFlags := 2, nameIndex := 7, descriptorIndex := 8, attributes := #[] }, { accessFlags := 9, nameIndex := 201, descriptorIndex := 335, attributes := #[] }] 49 4 #[] #[{ accessFlags := 25, nameIndex := 354, descriptorIndex := 339, attributes := #[] }, { accessFlags := 25, nameIndex := 358, descriptorIndex := 339, attributes := #[] }, { accessFlags := 25, nameIndex := 361, descriptorIndex := 339, attributes := #[] }, { accessFlags := 26, nameIndex := 364, descriptorIndex := 339, attributes := #[] }, { accessFlags := 26, nameIndex := 365, descriptorIndex := 339, attributes := #[] }, { accessFlags := 26, nameIndex := 172, descriptorIndex := 173, attributes := #[] }, { accessFlags := 26, nameIndex := 176, descriptorIndex := 173, attributes := #[] }, { accessFlags := 8, nameIndex := 344, descriptorIndex := 339, attributes := #[] }, { accessFlags := 8, nameIndex := 338, descriptorIndex := 339, attributes := #[] }, { accessFlags := 4120, nameIndex := 245, descriptorIndex := 246, attributes := #[] }])
  fields := #[{ name := "E", type := .double, accessFlags := 25, slot := 0, constantValue := 0 }, { name := "PI", type := .double, accessFlags := 25, slot := 1, constantValue := 0 }, { name := "TAU", type := .double, accessFlags := 25, slot := 2, constantValue := 0 }, { name := "DEGREES_TO_RADIANS", type := .double, accessFlags := 26, slot := 3, constantValue := 0 }, { name := "RADIANS_TO_DEGREES", type := .double, accessFlags := 26, slot := 4, constantValue := 0 }, { name := "negativeZeroFloatBits", type := .long, accessFlags := 26, slot := 5, constantValue := 0 }, { name := "negativeZeroDoubleBits", type := .long, accessFlags := 26, slot := 6, constantValue := 0 }, { name := "twoToTheDoubleScaleUp", type := .double, accessFlags := 8, slot := 7, constantValue := 0 }, { name := "twoToTheDoubleScaleDown", type := .double, accessFlags := 8, slot := 8, constantValue := 0 }, { name := "$assertionsDisabled", type := .boolean, accessFlags := 4120, slot := 9, constantValue := 0 }]
  methods := #[k9m0, k9m1]
  instanceTypes := #[]
  staticTypes := #[.double, .double, .double, .double, .double, .long, .long, .double, .double, .boolean]
  resolved := Array.replicate 460 none
  statics := none }

def pool10 : Array CpInfo := pool [(2, .class_ 4), (1, u "java/lang/Object"), (0, u "<init>"), (0, u "()V"), (0, .methodref 8 9), (0, .class_ 10), (0, .nameAndType 11 12), (0, u "java/lang/String"), (0, u "length"), (0, u "()I"), (0, .methodref 14 15), (0, .class_ 16), (0, .nameAndType 17 18), (0, u "java/lang/Math"), (0, u "min"), (0, u "(II)I"), (0, .methodref 8 20), (0, .nameAndType 21 22), (0, u "charAt"), (0, u "(I)C"), (0, .methodref 24 25), (0, .class_ 26), (0, .nameAndType 27 28), (0, u "com/example/heredity/heredity/CodePointOrder"), (0, u "rank"), (0, u "(C)I"), (0, .methodref 30 31), (0, .class_ 32), (0, .nameAndType 33 18), (0, u "java/lang/Integer"), (0, u "compare"), (0, .methodref 35 36), (0, .class_ 37), (0, .nameAndType 38 39), (0, u "java/lang/Character"), (0, u "isSurrogate"), (0, u "(C)Z"), (0, .integer 65536), (2, u "(Ljava/lang/String;Ljava/lang/String;)I")] 3

def k10m0 : Method := { name := "<init>", desc := "()V", sig := { parameters := [], returnType := none }, accessFlags := 2, code := none }
def k10c1 : Code := { maxStack := 2, maxLocals := 6, code := prog_1_method_2_code, exceptionTable := #[], attributes := #[] }
def k10m1 : Method := { name := "compare", desc := "(Ljava/lang/String;Ljava/lang/String;)I", sig := { parameters := [(.object "java/lang/String"), (.object "java/lang/String")], returnType := some .int }, accessFlags := 8, code := some k10c1 }
def k10c2 : Code := { maxStack := 2, maxLocals := 1, code := prog_1_method_3_code, exceptionTable := #[], attributes := #[] }
def k10m2 : Method := { name := "rank", desc := "(C)I", sig := { parameters := [.char], returnType := some .int }, accessFlags := 10, code := some k10c2 }
/-- com/example/heredity/heredity/CodePointOrder -/
def k10 : Class := { plain "com/example/heredity/heredity/CodePointOrder" (some 0) with
  accessFlags := 48
  interfaces := #[]
  cf := some (fileOf pool10 24 #[] #[{ accessFlags := 2, nameIndex := 5, descriptorIndex := 6, attributes := #[] }, { accessFlags := 8, nameIndex := 33, descriptorIndex := 43, attributes := #[] }, { accessFlags := 10, nameIndex := 27, descriptorIndex := 28, attributes := #[] }] 48 2 #[] #[])
  fields := #[]
  methods := #[k10m0, k10m1, k10m2]
  instanceTypes := #[]
  staticTypes := #[]
  resolved := Array.replicate 47 none
  statics := none }

def pool11 : Array CpInfo := pool [(2, .class_ 4), (1, u "java/lang/Object"), (0, u "<init>"), (0, u "()V"), (1, .class_ 10), (1, u "java/lang/Number"), (2, .class_ 14), (0, u "java/io/Serializable"), (0, u "serialVersionUID"), (0, u "J")] 20

def k11m0 : Method := { name := "<init>", desc := "()V", sig := { parameters := [], returnType := none }, accessFlags := 1, code := none }
/-- java/lang/Number -/
def k11 : Class := { plain "java/lang/Number" (some 0) with
  accessFlags := 1057
  interfaces := #[2]
  cf := some (fileOf pool11 8 #[] #[{ accessFlags := 1, nameIndex := 5, descriptorIndex := 6, attributes := #[] }] 1057 2 #[13] #[{ accessFlags := 26, nameIndex := 15, descriptorIndex := 16, attributes := #[] }])
  fields := #[{ name := "serialVersionUID", type := .long, accessFlags := 26, slot := 0, constantValue := 0 }]
  methods := #[k11m0]
  instanceTypes := #[]
  staticTypes := #[.long]
  resolved := Array.replicate 37 none
  statics := none }

def pool12 : Array CpInfo := pool [(1, .class_ 2), (0, u "java/lang/Integer"), (16, u "digits"), (0, u "[C"), (39, u "(II)I"), (24, u "DigitOnes"), (0, u "[B"), (2, u "DigitTens"), (99, .class_ 190), (0, u "java/lang/Integer$IntegerCache"), (3, u "I"), (8, .class_ 204), (0, u "java/lang/Number"), (2, u "value"), (53, u "compare"), (40, u "TYPE"), (0, u "Ljava/lang/Class;"), (0, .class_ 305), (0, u "java/lang/Comparable"), (0, .class_ 307), (0, u "java/lang/constant/Constable"), (0, .class_ 309), (0, u "java/lang/constant/ConstantDesc"), (0, u "MIN_VALUE"), (1, u "MAX_VALUE"), (3, u "SIZE"), (1, u "BYTES"), (1, u "serialVersionUID"), (0, u "J")] 131

def k12c0 : Code := { maxStack := 2, maxLocals := 2, code := jdk_33_method_40_code, exceptionTable := #[], attributes := #[] }
def k12m0 : Method := { name := "compare", desc := "(II)I", sig := { parameters := [.int, .int], returnType := some .int }, accessFlags := 9, code := some k12c0 }
/-- java/lang/Integer -/
def k12 : Class := { plain "java/lang/Integer" (some 11) with
  accessFlags := 49
  interfaces := #[3, 5, 6]
  cf := some (fileOf pool12 1 #[.nestMembers #[189]] #[{ accessFlags := 9, nameIndex := 261, descriptorIndex := 60, attributes := #[] }] 49 203 #[304, 306, 308] #[{ accessFlags := 25, nameIndex := 310, descriptorIndex := 194, attributes := #[] }, { accessFlags := 25, nameIndex := 312, descriptorIndex := 194, attributes := #[] }, { accessFlags := 25, nameIndex := 302, descriptorIndex := 303, attributes := #[] }, { accessFlags := 24, nameIndex := 19, descriptorIndex := 20, attributes := #[] }, { accessFlags := 24, nameIndex := 89, descriptorIndex := 86, attributes := #[] }, { accessFlags := 24, nameIndex := 85, descriptorIndex := 86, attributes := #[] }, { accessFlags := 18, nameIndex := 207, descriptorIndex := 194, attributes := #[] }, { accessFlags := 25, nameIndex := 316, descriptorIndex := 194, attributes := #[] }, { accessFlags := 25, nameIndex := 318, descriptorIndex := 194, attributes := #[] }, { accessFlags := 26, nameIndex := 320, descriptorIndex := 321, attributes := #[] }])
  fields := #[{ name := "MIN_VALUE", type := .int, accessFlags := 25, slot := 0, constantValue := 0 }, { name := "MAX_VALUE", type := .int, accessFlags := 25, slot := 1, constantValue := 0 }, { name := "TYPE", type := (.object "java/lang/Class"), accessFlags := 25, slot := 2, constantValue := 0 }, { name := "digits", type := (.array .char), accessFlags := 24, slot := 3, constantValue := 0 }, { name := "DigitTens", type := (.array .byte), accessFlags := 24, slot := 4, constantValue := 0 }, { name := "DigitOnes", type := (.array .byte), accessFlags := 24, slot := 5, constantValue := 0 }, { name := "value", type := .int, accessFlags := 18, slot := 0, constantValue := 0 }, { name := "SIZE", type := .int, accessFlags := 25, slot := 6, constantValue := 0 }, { name := "BYTES", type := .int, accessFlags := 25, slot := 7, constantValue := 0 }, { name := "serialVersionUID", type := .long, accessFlags := 26, slot := 8, constantValue := 0 }]
  methods := #[k12m0]
  instanceTypes := #[.int]
  staticTypes := #[.int, .int, (.object "java/lang/Class"), (.array .char), (.array .byte), (.array .byte), .int, .int, .long]
  resolved := Array.replicate 453 none
  statics := none }

def pool13 : Array CpInfo := pool [(2, .class_ 4), (1, u "java/lang/Object"), (0, u "<init>"), (0, u "()V"), (17, .class_ 26), (1, u "jdk/internal/util/Preconditions"), (6, u "checkIndex"), (21, .class_ 56), (0, u "jdk/internal/util/Preconditions$4"), (57, .class_ 115), (0, u "jdk/internal/util/Preconditions$1"), (7, u "SIOOBE_FORMATTER"), (0, u "Ljava/util/function/BiFunction;"), (0, .class_ 126), (0, u "jdk/internal/util/Preconditions$2"), (3, u "AIOOBE_FORMATTER"), (0, .class_ 132), (0, u "jdk/internal/util/Preconditions$3"), (3, u "IOOBE_FORMATTER"), (41, u "(IILjava/util/function/BiFunction;)I")] 15

def k13m0 : Method := { name := "<init>", desc := "()V", sig := { parameters := [], returnType := none }, accessFlags := 1, code := none }
def k13c1 : Code := { maxStack := 3, maxLocals := 3, code := jdk_41_method_11_code, exceptionTable := #[], attributes := #[] }
def k13m1 : Method := { name := "checkIndex", desc := "(IILjava/util/function/BiFunction;)I", sig := { parameters := [.int, .int, (.object "java/util/function/BiFunction")], returnType := some .int }, accessFlags := 9, code := some k13c1 }
/-- jdk/internal/util/Preconditions -/
def k13 : Class := { plain "jdk/internal/util/Preconditions" (some 0) with
  accessFlags := 33
  interfaces := #[]
  cf := some (fileOf pool13 24 #[.nestMembers #[55, 131, 125, 114]] #[{ accessFlags := 1, nameIndex := 5, descriptorIndex := 6, attributes := #[] }, { accessFlags := 9, nameIndex := 33, descriptorIndex := 178, attributes := #[] }] 33 2 #[] #[{ accessFlags := 25, nameIndex := 123, descriptorIndex := 124, attributes := #[] }, { accessFlags := 25, nameIndex := 130, descriptorIndex := 124, attributes := #[] }, { accessFlags := 25, nameIndex := 136, descriptorIndex := 124, attributes := #[] }])
  fields := #[{ name := "SIOOBE_FORMATTER", type := (.object "java/util/function/BiFunction"), accessFlags := 25, slot := 0, constantValue := 0 }, { name := "AIOOBE_FORMATTER", type := (.object "java/util/function/BiFunction"), accessFlags := 25, slot := 1, constantValue := 0 }, { name := "IOOBE_FORMATTER", type := (.object "java/util/function/BiFunction"), accessFlags := 25, slot := 2, constantValue := 0 }]
  methods := #[k13m0, k13m1]
  instanceTypes := #[]
  staticTypes := #[(.object "java/util/function/BiFunction"), (.object "java/util/function/BiFunction"), (.object "java/util/function/BiFunction")]
  resolved := Array.replicate 194 none
  statics := some 2 }

def pool14 : Array CpInfo := pool [(1, .class_ 2), (0, u "java/lang/Character"), (18, u "value"), (0, u "C"), (19, .class_ 44), (1, u "java/lang/Object"), (3, .class_ 50), (1, u "java/lang/Character$CharacterCache"), (24, .integer 55296), (1, .integer 57344), (3, u "(C)Z"), (202, u "$assertionsDisabled"), (0, u "Z"), (21, .class_ 309), (1, u "java/lang/Character$UnicodeBlock"), (73, u "TYPE"), (0, u "Ljava/lang/Class;"), (0, .class_ 386), (0, u "java/io/Serializable"), (0, .class_ 388), (0, u "java/lang/Comparable"), (0, .class_ 390), (0, u "java/lang/constant/Constable"), (0, u "MIN_RADIX"), (0, u "I"), (2, u "MAX_RADIX"), (1, u "MIN_VALUE"), (1, u "MAX_VALUE"), (3, u "UNASSIGNED"), (0, u "B"), (0, u "UPPERCASE_LETTER"), (1, u "LOWERCASE_LETTER"), (0, u "TITLECASE_LETTER"), (1, u "MODIFIER_LETTER"), (1, u "OTHER_LETTER"), (1, u "NON_SPACING_MARK"), (1, u "ENCLOSING_MARK"), (1, u "COMBINING_SPACING_MARK"), (1, u "DECIMAL_DIGIT_NUMBER"), (1, u "LETTER_NUMBER"), (1, u "OTHER_NUMBER"), (1, u "SPACE_SEPARATOR"), (1, u "LINE_SEPARATOR"), (1, u "PARAGRAPH_SEPARATOR"), (1, u "CONTROL"), (1, u "FORMAT"), (1, u "PRIVATE_USE"), (1, u "SURROGATE"), (1, u "DASH_PUNCTUATION"), (1, u "START_PUNCTUATION"), (1, u "END_PUNCTUATION"), (1, u "CONNECTOR_PUNCTUATION"), (1, u "OTHER_PUNCTUATION"), (1, u "MATH_SYMBOL"), (1, u "CURRENCY_SYMBOL"), (1, u "MODIFIER_SYMBOL"), (1, u "OTHER_SYMBOL"), (1, u "INITIAL_QUOTE_PUNCTUATION"), (1, u "FINAL_QUOTE_PUNCTUATION"), (1, u "ERROR"), (1, u "DIRECTIONALITY_UNDEFINED"), (0, u "DIRECTIONALITY_LEFT_TO_RIGHT"), (0, u "DIRECTIONALITY_RIGHT_TO_LEFT"), (0, u "DIRECTIONALITY_RIGHT_TO_LEFT_ARABIC"), (0, u "DIRECTIONALITY_EUROPEAN_NUMBER"), (0, u "DIRECTIONALITY_EUROPEAN_NUMBER_SEPARATOR"), (0, u "DIRECTIONALITY_EUROPEAN_NUMBER_TERMINATOR"), (0, u "DIRECTIONALITY_ARABIC_NUMBER"), (0, u "DIRECTIONALITY_COMMON_NUMBER_SEPARATOR"), (0, u "DIRECTIONALITY_NONSPACING_MARK"), (0, u "DIRECTIONALITY_BOUNDARY_NEUTRAL"), (0, u "DIRECTIONALITY_PARAGRAPH_SEPARATOR"), (0, u "DIRECTIONALITY_SEGMENT_SEPARATOR"), (0, u "DIRECTIONALITY_WHITESPACE"), (0, u "DIRECTIONALITY_OTHER_NEUTRALS"), (0, u "DIRECTIONALITY_LEFT_TO_RIGHT_EMBEDDING"), (0, u "DIRECTIONALITY_LEFT_TO_RIGHT_OVERRIDE"), (0, u "DIRECTIONALITY_RIGHT_TO_LEFT_EMBEDDING"), (0, u "DIRECTIONALITY_RIGHT_TO_LEFT_OVERRIDE"), (1, u "DIRECTIONALITY_POP_DIRECTIONAL_FORMAT"), (0, u "DIRECTIONALITY_LEFT_TO_RIGHT_ISOLATE"), (0, u "DIRECTIONALITY_RIGHT_TO_LEFT_ISOLATE"), (0, u "DIRECTIONALITY_FIRST_STRONG_ISOLATE"), (0, u "DIRECTIONALITY_POP_DIRECTIONAL_ISOLATE"), (0, u "MIN_HIGH_SURROGATE"), (0, u "MAX_HIGH_SURROGATE"), (1, u "MIN_LOW_SURROGATE"), (0, u "MAX_LOW_SURROGATE"), (1, u "MIN_SURROGATE"), (0, u "MAX_SURROGATE"), (0, u "MIN_SUPPLEMENTARY_CODE_POINT"), (0, u "MIN_CODE_POINT"), (0, u "MAX_CODE_POINT"), (1, u "serialVersionUID"), (0, u "J"), (2, u "SIZE"), (0, u "BYTES"), (24, u "isSurrogate"), (63, .class_ 596), (0, u "java/lang/Character$UnicodeScript"), (0, .class_ 598), (0, u "java/lang/Character$Subset")] 5

def k14c0 : Code := { maxStack := 2, maxLocals := 1, code := jdk_89_method_16_code, exceptionTable := #[], attributes := #[] }
def k14m0 : Method := { name := "isSurrogate", desc := "(C)Z", sig := { parameters := [.char], returnType := some .boolean }, accessFlags := 9, code := some k14c0 }
/-- java/lang/Character -/
def k14 : Class := { plain "java/lang/Character" (some 0) with
  accessFlags := 49
  interfaces := #[2, 3, 5]
  cf := some (fileOf pool14 1 #[.nestMembers #[48, 595, 307, 597]] #[{ accessFlags := 9, nameIndex := 531, descriptorIndex := 81, attributes := #[] }] 49 42 #[385, 387, 389] #[{ accessFlags := 25, nameIndex := 391, descriptorIndex := 392, attributes := #[] }, { accessFlags := 25, nameIndex := 395, descriptorIndex := 392, attributes := #[] }, { accessFlags := 25, nameIndex := 397, descriptorIndex := 22, attributes := #[] }, { accessFlags := 25, nameIndex := 399, descriptorIndex := 22, attributes := #[] }, { accessFlags := 25, nameIndex := 383, descriptorIndex := 384, attributes := #[] }, { accessFlags := 25, nameIndex := 403, descriptorIndex := 404, attributes := #[] }, { accessFlags := 25, nameIndex := 405, descriptorIndex := 404, attributes := #[] }, { accessFlags := 25, nameIndex := 407, descriptorIndex := 404, attributes := #[] }, { accessFlags := 25, nameIndex := 408, descriptorIndex := 404, attributes := #[] }, { accessFlags := 25, nameIndex := 410, descriptorIndex := 404, attributes := #[] }, { accessFlags := 25, nameIndex := 412, descriptorIndex := 404, attributes := #[] }, { accessFlags := 25, nameIndex := 414, descriptorIndex := 404, attributes := #[] }, { accessFlags := 25, nameIndex := 416, descriptorIndex := 404, attributes := #[] }, { accessFlags := 25, nameIndex := 418, descriptorIndex := 404, attributes := #[] }, { accessFlags := 25, nameIndex := 420, descriptorIndex := 404, attributes := #[] }, { accessFlags := 25, nameIndex := 422, descriptorIndex := 404, attributes := #[] }, { accessFlags := 25, nameIndex := 424, descriptorIndex := 404, attributes := #[] }, { accessFlags := 25, nameIndex := 426, descriptorIndex := 404, attributes := #[] }, { accessFlags := 25, nameIndex := 428, descriptorIndex := 404, attributes := #[] }, { accessFlags := 25, nameIndex := 430, descriptorIndex := 404, attributes := #[] }, { accessFlags := 25, nameIndex := 432, descriptorIndex := 404, attributes := #[] }, { accessFlags := 25, nameIndex := 434, descriptorIndex := 404, attributes := #[] }, { accessFlags := 25, nameIndex := 436, descriptorIndex := 404, attributes := #[] }, { accessFlags := 25, nameIndex := 438, descriptorIndex := 404, attributes := #[] }, { accessFlags := 25, nameIndex := 440, descriptorIndex := 404, attributes := #[] }, { accessFlags := 25, nameIndex := 442, descriptorIndex := 404, attributes := #[] }, { accessFlags := 25, nameIndex := 444, descriptorIndex := 404, attributes := #[] }, { accessFlags := 25, nameIndex := 446, descriptorIndex := 404, attributes := #[] }, { accessFlags := 25, nameIndex := 448, descriptorIndex := 404, attributes := #[] }, { accessFlags := 25, nameIndex := 450, descriptorIndex := 404, attributes := #[] }, { accessFlags := 25, nameIndex := 452, descriptorIndex := 404, attributes := #[] }, { accessFlags := 25, nameIndex := 454, descriptorIndex := 404, attributes := #[] }, { accessFlags := 25, nameIndex := 456, descriptorIndex := 404, attributes := #[] }, { accessFlags := 25, nameIndex := 458, descriptorIndex := 404, attributes := #[] }, { accessFlags := 25, nameIndex := 460, descriptorIndex := 404, attributes := #[] }, { accessFlags := 24, nameIndex := 462, descriptorIndex := 392, attributes := #[] }, { accessFlags := 25, nameIndex := 464, descriptorIndex := 404, attributes := #[] }, { accessFlags := 25, nameIndex := 465, descriptorIndex := 404, attributes := #[] }, { accessFlags := 25, nameIndex := 466, descriptorIndex := 404, attributes := #[] }, { accessFlags := 25, nameIndex := 467, descriptorIndex := 404, attributes := #[] }, { accessFlags := 25, nameIndex := 468, descriptorIndex := 404, attributes := #[] }, { accessFlags := 25, nameIndex := 469, descriptorIndex := 404, attributes := #[] }, { accessFlags := 25, nameIndex := 470, descriptorIndex := 404, attributes := #[] }, { accessFlags := 25, nameIndex := 471, descriptorIndex := 404, attributes := #[] }, { accessFlags := 25, nameIndex := 472, descriptorIndex := 404, attributes := #[] }, { accessFlags := 25, nameIndex := 473, descriptorIndex := 404, attributes := #[] }, { accessFlags := 25, nameIndex := 474, descriptorIndex := 404, attributes := #[] }, { accessFlags := 25, nameIndex := 475, descriptorIndex := 404, attributes := #[] }, { accessFlags := 25, nameIndex := 476, descriptorIndex := 404, attributes := #[] }, { accessFlags := 25, nameIndex := 477, descriptorIndex := 404, attributes := #[] }, { accessFlags := 25, nameIndex := 478, descriptorIndex := 404, attributes := #[] }, { accessFlags := 25, nameIndex := 479, descriptorIndex := 404, attributes := #[] }, { accessFlags := 25, nameIndex := 480, descriptorIndex := 404, attributes := #[] }, { accessFlags := 25, nameIndex := 481, descriptorIndex := 404, attributes := #[] }, { accessFlags := 25, nameIndex := 482, descriptorIndex := 404, attributes := #[] }, { accessFlags := 25, nameIndex := 484, descriptorIndex := 404, attributes := #[] }, { accessFlags := 25, nameIndex := 485, descriptorIndex := 404, attributes := #[] }, { accessFlags := 25, nameIndex := 486, descriptorIndex := 404, attributes := #[] }, { accessFlags := 25, nameIndex := 487, descriptorIndex := 404, attributes := #[] }, { accessFlags := 25, nameIndex := 488, descriptorIndex := 404, attributes := #[] }, { accessFlags := 25, nameIndex := 489, descriptorIndex := 22, attributes := #[] }, { accessFlags := 25, nameIndex := 490, descriptorIndex := 22, attributes := #[] }, { accessFlags := 25, nameIndex := 492, descriptorIndex := 22, attributes := #[] }, { accessFlags := 25, nameIndex := 493, descriptorIndex := 22, attributes := #[] }, { accessFlags := 25, nameIndex := 495, descriptorIndex := 22, attributes := #[] }, { accessFlags := 25, nameIndex := 496, descriptorIndex := 22, attributes := #[] }, { accessFlags := 25, nameIndex := 497, descriptorIndex := 392, attributes := #[] }, { accessFlags := 25, nameIndex := 498, descriptorIndex := 392, attributes := #[] }, { accessFlags := 25, nameIndex := 499, descriptorIndex := 392, attributes := #[] }, { accessFlags := 18, nameIndex := 21, descriptorIndex := 22, attributes := #[] }, { accessFlags := 26, nameIndex := 501, descriptorIndex := 502, attributes := #[] }, { accessFlags := 25, nameIndex := 505, descriptorIndex := 392, attributes := #[] }, { accessFlags := 25, nameIndex := 506, descriptorIndex := 392, attributes := #[] }, { accessFlags := 4120, nameIndex := 284, descriptorIndex := 285, attributes := #[] }])
  fields := #[{ name := "MIN_RADIX", type := .int, accessFlags := 25, slot := 0, constantValue := 0 }, { name := "MAX_RADIX", type := .int, accessFlags := 25, slot := 1, constantValue := 0 }, { name := "MIN_VALUE", type := .char, accessFlags := 25, slot := 2, constantValue := 0 }, { name := "MAX_VALUE", type := .char, accessFlags := 25, slot := 3, constantValue := 0 }, { name := "TYPE", type := (.object "java/lang/Class"), accessFlags := 25, slot := 4, constantValue := 0 }, { name := "UNASSIGNED", type := .byte, accessFlags := 25, slot := 5, constantValue := 0 }, { name := "UPPERCASE_LETTER", type := .byte, accessFlags := 25, slot := 6, constantValue := 0 }, { name := "LOWERCASE_LETTER", type := .byte, accessFlags := 25, slot := 7, constantValue := 0 }, { name := "TITLECASE_LETTER", type := .byte, accessFlags := 25, slot := 8, constantValue := 0 }, { name := "MODIFIER_LETTER", type := .byte, accessFlags := 25, slot := 9, constantValue := 0 }, { name := "OTHER_LETTER", type := .byte, accessFlags := 25, slot := 10, constantValue := 0 }, { name := "NON_SPACING_MARK", type := .byte, accessFlags := 25, slot := 11, constantValue := 0 }, { name := "ENCLOSING_MARK", type := .byte, accessFlags := 25, slot := 12, constantValue := 0 }, { name := "COMBINING_SPACING_MARK", type := .byte, accessFlags := 25, slot := 13, constantValue := 0 }, { name := "DECIMAL_DIGIT_NUMBER", type := .byte, accessFlags := 25, slot := 14, constantValue := 0 }, { name := "LETTER_NUMBER", type := .byte, accessFlags := 25, slot := 15, constantValue := 0 }, { name := "OTHER_NUMBER", type := .byte, accessFlags := 25, slot := 16, constantValue := 0 }, { name := "SPACE_SEPARATOR", type := .byte, accessFlags := 25, slot := 17, constantValue := 0 }, { name := "LINE_SEPARATOR", type := .byte, accessFlags := 25, slot := 18, constantValue := 0 }, { name := "PARAGRAPH_SEPARATOR", type := .byte, accessFlags := 25, slot := 19, constantValue := 0 }, { name := "CONTROL", type := .byte, accessFlags := 25, slot := 20, constantValue := 0 }, { name := "FORMAT", type := .byte, accessFlags := 25, slot := 21, constantValue := 0 }, { name := "PRIVATE_USE", type := .byte, accessFlags := 25, slot := 22, constantValue := 0 }, { name := "SURROGATE", type := .byte, accessFlags := 25, slot := 23, constantValue := 0 }, { name := "DASH_PUNCTUATION", type := .byte, accessFlags := 25, slot := 24, constantValue := 0 }, { name := "START_PUNCTUATION", type := .byte, accessFlags := 25, slot := 25, constantValue := 0 }, { name := "END_PUNCTUATION", type := .byte, accessFlags := 25, slot := 26, constantValue := 0 }, { name := "CONNECTOR_PUNCTUATION", type := .byte, accessFlags := 25, slot := 27, constantValue := 0 }, { name := "OTHER_PUNCTUATION", type := .byte, accessFlags := 25, slot := 28, constantValue := 0 }, { name := "MATH_SYMBOL", type := .byte, accessFlags := 25, slot := 29, constantValue := 0 }, { name := "CURRENCY_SYMBOL", type := .byte, accessFlags := 25, slot := 30, constantValue := 0 }, { name := "MODIFIER_SYMBOL", type := .byte, accessFlags := 25, slot := 31, constantValue := 0 }, { name := "OTHER_SYMBOL", type := .byte, accessFlags := 25, slot := 32, constantValue := 0 }, { name := "INITIAL_QUOTE_PUNCTUATION", type := .byte, accessFlags := 25, slot := 33, constantValue := 0 }, { name := "FINAL_QUOTE_PUNCTUATION", type := .byte, accessFlags := 25, slot := 34, constantValue := 0 }, { name := "ERROR", type := .int, accessFlags := 24, slot := 35, constantValue := 0 }, { name := "DIRECTIONALITY_UNDEFINED", type := .byte, accessFlags := 25, slot := 36, constantValue := 0 }, { name := "DIRECTIONALITY_LEFT_TO_RIGHT", type := .byte, accessFlags := 25, slot := 37, constantValue := 0 }, { name := "DIRECTIONALITY_RIGHT_TO_LEFT", type := .byte, accessFlags := 25, slot := 38, constantValue := 0 }, { name := "DIRECTIONALITY_RIGHT_TO_LEFT_ARABIC", type := .byte, accessFlags := 25, slot := 39, constantValue := 0 }, { name := "DIRECTIONALITY_EUROPEAN_NUMBER", type := .byte, accessFlags := 25, slot := 40, constantValue := 0 }, { name := "DIRECTIONALITY_EUROPEAN_NUMBER_SEPARATOR", type := .byte, accessFlags := 25, slot := 41, constantValue := 0 }, { name := "DIRECTIONALITY_EUROPEAN_NUMBER_TERMINATOR", type := .byte, accessFlags := 25, slot := 42, constantValue := 0 }, { name := "DIRECTIONALITY_ARABIC_NUMBER", type := .byte, accessFlags := 25, slot := 43, constantValue := 0 }, { name := "DIRECTIONALITY_COMMON_NUMBER_SEPARATOR", type := .byte, accessFlags := 25, slot := 44, constantValue := 0 }, { name := "DIRECTIONALITY_NONSPACING_MARK", type := .byte, accessFlags := 25, slot := 45, constantValue := 0 }, { name := "DIRECTIONALITY_BOUNDARY_NEUTRAL", type := .byte, accessFlags := 25, slot := 46, constantValue := 0 }, { name := "DIRECTIONALITY_PARAGRAPH_SEPARATOR", type := .byte, accessFlags := 25, slot := 47, constantValue := 0 }, { name := "DIRECTIONALITY_SEGMENT_SEPARATOR", type := .byte, accessFlags := 25, slot := 48, constantValue := 0 }, { name := "DIRECTIONALITY_WHITESPACE", type := .byte, accessFlags := 25, slot := 49, constantValue := 0 }, { name := "DIRECTIONALITY_OTHER_NEUTRALS", type := .byte, accessFlags := 25, slot := 50, constantValue := 0 }, { name := "DIRECTIONALITY_LEFT_TO_RIGHT_EMBEDDING", type := .byte, accessFlags := 25, slot := 51, constantValue := 0 }, { name := "DIRECTIONALITY_LEFT_TO_RIGHT_OVERRIDE", type := .byte, accessFlags := 25, slot := 52, constantValue := 0 }, { name := "DIRECTIONALITY_RIGHT_TO_LEFT_EMBEDDING", type := .byte, accessFlags := 25, slot := 53, constantValue := 0 }, { name := "DIRECTIONALITY_RIGHT_TO_LEFT_OVERRIDE", type := .byte, accessFlags := 25, slot := 54, constantValue := 0 }, { name := "DIRECTIONALITY_POP_DIRECTIONAL_FORMAT", type := .byte, accessFlags := 25, slot := 55, constantValue := 0 }, { name := "DIRECTIONALITY_LEFT_TO_RIGHT_ISOLATE", type := .byte, accessFlags := 25, slot := 56, constantValue := 0 }, { name := "DIRECTIONALITY_RIGHT_TO_LEFT_ISOLATE", type := .byte, accessFlags := 25, slot := 57, constantValue := 0 }, { name := "DIRECTIONALITY_FIRST_STRONG_ISOLATE", type := .byte, accessFlags := 25, slot := 58, constantValue := 0 }, { name := "DIRECTIONALITY_POP_DIRECTIONAL_ISOLATE", type := .byte, accessFlags := 25, slot := 59, constantValue := 0 }, { name := "MIN_HIGH_SURROGATE", type := .char, accessFlags := 25, slot := 60, constantValue := 0 }, { name := "MAX_HIGH_SURROGATE", type := .char, accessFlags := 25, slot := 61, constantValue := 0 }, { name := "MIN_LOW_SURROGATE", type := .char, accessFlags := 25, slot := 62, constantValue := 0 }, { name := "MAX_LOW_SURROGATE", type := .char, accessFlags := 25, slot := 63, constantValue := 0 }, { name := "MIN_SURROGATE", type := .char, accessFlags := 25, slot := 64, constantValue := 0 }, { name := "MAX_SURROGATE", type := .char, accessFlags := 25, slot := 65, constantValue := 0 }, { name := "MIN_SUPPLEMENTARY_CODE_POINT", type := .int, accessFlags := 25, slot := 66, constantValue := 0 }, { name := "MIN_CODE_POINT", type := .int, accessFlags := 25, slot := 67, constantValue := 0 }, { name := "MAX_CODE_POINT", type := .int, accessFlags := 25, slot := 68, constantValue := 0 }, { name := "value", type := .char, accessFlags := 18, slot := 0, constantValue := 0 }, { name := "serialVersionUID", type := .long, accessFlags := 26, slot := 69, constantValue := 0 }, { name := "SIZE", type := .int, accessFlags := 25, slot := 70, constantValue := 0 }, { name := "BYTES", type := .int, accessFlags := 25, slot := 71, constantValue := 0 }, { name := "$assertionsDisabled", type := .boolean, accessFlags := 4120, slot := 72, constantValue := 0 }]
  methods := #[k14m0]
  instanceTypes := #[.char]
  staticTypes := #[.int, .int, .char, .char, (.object "java/lang/Class"), .byte, .byte, .byte, .byte, .byte, .byte, .byte, .byte, .byte, .byte, .byte, .byte, .byte, .byte, .byte, .byte, .byte, .byte, .byte, .byte, .byte, .byte, .byte, .byte, .byte, .byte, .byte, .byte, .byte, .byte, .int, .byte, .byte, .byte, .byte, .byte, .byte, .byte, .byte, .byte, .byte, .byte, .byte, .byte, .byte, .byte, .byte, .byte, .byte, .byte, .byte, .byte, .byte, .byte, .byte, .char, .char, .char, .char, .char, .char, .int, .int, .int, .long, .int, .int, .boolean]
  resolved := Array.replicate 604 none
  statics := none }

def pool15 : Array CpInfo := pool [(1, .class_ 2), (0, u "java/lang/String"), (1, .class_ 6), (1, u "java/lang/Object"), (0, u "<init>"), (0, u "()V"), (0, .methodref 1 10), (0, .nameAndType 11 12), (0, u "checkIndex"), (0, u "(II)V"), (1, .class_ 16), (1, u "java/lang/StringLatin1"), (36, u "([BI)C"), (67, u "$assertionsDisabled"), (0, u "Z"), (98, .class_ 223), (1, u "java/lang/StringLatin1$LinesSpliterator"), (28, u "charAt"), (137, .class_ 391), (0, u "java/lang/StringLatin1$CharsSpliterator")] 3

def k15m0 : Method := { name := "<init>", desc := "()V", sig := { parameters := [], returnType := none }, accessFlags := 0, code := none }
def k15c1 : Code := { maxStack := 2, maxLocals := 2, code := jdk_43_method_2_code, exceptionTable := #[], attributes := #[] }
def k15m1 : Method := { name := "charAt", desc := "([BI)C", sig := { parameters := [(.array .byte), .int], returnType := some .char }, accessFlags := 9, code := some k15c1 }
/-- java/lang/StringLatin1 -/
def k15 : Class := { plain "java/lang/StringLatin1" (some 0) with
  accessFlags := 48
  interfaces := #[]
  cf := some (fileOf pool15 14 #[.nestMembers #[390, 221]] #[{ accessFlags := 0, nameIndex := 7, descriptorIndex := 8, attributes := #[] }, { accessFlags := 9, nameIndex := 252, descriptorIndex := 53, attributes := #[] }] 48 4 #[] #[{ accessFlags := 4120, nameIndex := 121, descriptorIndex := 122, attributes := #[] }])
  fields := #[{ name := "$assertionsDisabled", type := .boolean, accessFlags := 4120, slot := 0, constantValue := 0 }]
  methods := #[k15m0, k15m1]
  instanceTypes := #[]
  staticTypes := #[.boolean]
  resolved := Array.replicate 395 none
  statics := none }

def pool16 : Array CpInfo := pool [(9, u "<init>"), (6, .class_ 18), (1, u "java/lang/Object"), (0, u "()V"), (1, .class_ 23), (1, u "jdk/internal/util/ArraysSupport"), (0, u "LOG2_ARRAY_LONG_INDEX_SCALE"), (0, u "I"), (2, u "U"), (0, u "Ljdk/internal/misc/Unsafe;"), (8, u "BIG_ENDIAN"), (0, u "Z"), (8, u "LOG2_BYTE_BIT_SIZE"), (4, u "LOG2_ARRAY_INT_INDEX_SCALE"), (54, u "JLA"), (0, u "Ljdk/internal/access/JavaLangAccess;"), (11, u "LOG2_ARRAY_BOOLEAN_INDEX_SCALE"), (9, u "LOG2_ARRAY_BYTE_INDEX_SCALE"), (5, u "LOG2_ARRAY_CHAR_INDEX_SCALE"), (5, u "LOG2_ARRAY_SHORT_INDEX_SCALE"), (18, u "LOG2_ARRAY_FLOAT_INDEX_SCALE"), (24, u "LOG2_ARRAY_DOUBLE_INDEX_SCALE"), (89, u "T_BOOLEAN"), (2, u "T_CHAR"), (1, u "T_FLOAT"), (1, u "T_DOUBLE"), (1, u "T_BYTE"), (1, u "T_SHORT"), (1, u "T_INT"), (1, u "T_LONG"), (1, u "SOFT_MAX_ARRAY_LENGTH")] 83

def k16m0 : Method := { name := "<init>", desc := "()V", sig := { parameters := [], returnType := none }, accessFlags := 2, code := none }
/-- jdk/internal/util/ArraysSupport -/
def k16 : Class := { plain "jdk/internal/util/ArraysSupport" (some 0) with
  accessFlags := 33
  interfaces := #[]
  cf := some (fileOf pool16 21 #[] #[{ accessFlags := 2, nameIndex := 9, descriptorIndex := 19, attributes := #[] }] 33 16 #[] #[{ accessFlags := 24, nameIndex := 28, descriptorIndex := 29, attributes := #[] }, { accessFlags := 26, nameIndex := 38, descriptorIndex := 39, attributes := #[] }, { accessFlags := 25, nameIndex := 121, descriptorIndex := 25, attributes := #[] }, { accessFlags := 25, nameIndex := 131, descriptorIndex := 25, attributes := #[] }, { accessFlags := 25, nameIndex := 137, descriptorIndex := 25, attributes := #[] }, { accessFlags := 25, nameIndex := 143, descriptorIndex := 25, attributes := #[] }, { accessFlags := 25, nameIndex := 53, descriptorIndex := 25, attributes := #[] }, { accessFlags := 25, nameIndex := 24, descriptorIndex := 25, attributes := #[] }, { accessFlags := 25, nameIndex := 162, descriptorIndex := 25, attributes := #[] }, { accessFlags := 25, nameIndex := 187, descriptorIndex := 25, attributes := #[] }, { accessFlags := 26, nameIndex := 48, descriptorIndex := 25, attributes := #[] }, { accessFlags := 25, nameIndex := 277, descriptorIndex := 25, attributes := #[] }, { accessFlags := 25, nameIndex := 280, descriptorIndex := 25, attributes := #[] }, { accessFlags := 25, nameIndex := 282, descriptorIndex := 25, attributes := #[] }, { accessFlags := 25, nameIndex := 284, descriptorIndex := 25, attributes := #[] }, { accessFlags := 25, nameIndex := 286, descriptorIndex := 25, attributes := #[] }, { accessFlags := 25, nameIndex := 288, descriptorIndex := 25, attributes := #[] }, { accessFlags := 25, nameIndex := 290, descriptorIndex := 25, attributes := #[] }, { accessFlags := 25, nameIndex := 292, descriptorIndex := 25, attributes := #[] }, { accessFlags := 26, nameIndex := 108, descriptorIndex := 109, attributes := #[] }, { accessFlags := 25, nameIndex := 294, descriptorIndex := 25, attributes := #[] }])
  fields := #[{ name := "U", type := (.object "jdk/internal/misc/Unsafe"), accessFlags := 24, slot := 0, constantValue := 0 }, { name := "BIG_ENDIAN", type := .boolean, accessFlags := 26, slot := 1, constantValue := 0 }, { name := "LOG2_ARRAY_BOOLEAN_INDEX_SCALE", type := .int, accessFlags := 25, slot := 2, constantValue := 0 }, { name := "LOG2_ARRAY_BYTE_INDEX_SCALE", type := .int, accessFlags := 25, slot := 3, constantValue := 0 }, { name := "LOG2_ARRAY_CHAR_INDEX_SCALE", type := .int, accessFlags := 25, slot := 4, constantValue := 0 }, { name := "LOG2_ARRAY_SHORT_INDEX_SCALE", type := .int, accessFlags := 25, slot := 5, constantValue := 0 }, { name := "LOG2_ARRAY_INT_INDEX_SCALE", type := .int, accessFlags := 25, slot := 6, constantValue := 0 }, { name := "LOG2_ARRAY_LONG_INDEX_SCALE", type := .int, accessFlags := 25, slot := 7, constantValue := 0 }, { name := "LOG2_ARRAY_FLOAT_INDEX_SCALE", type := .int, accessFlags := 25, slot := 8, constantValue := 0 }, { name := "LOG2_ARRAY_DOUBLE_INDEX_SCALE", type := .int, accessFlags := 25, slot := 9, constantValue := 0 }, { name := "LOG2_BYTE_BIT_SIZE", type := .int, accessFlags := 26, slot := 10, constantValue := 0 }, { name := "T_BOOLEAN", type := .int, accessFlags := 25, slot := 11, constantValue := 0 }, { name := "T_CHAR", type := .int, accessFlags := 25, slot := 12, constantValue := 0 }, { name := "T_FLOAT", type := .int, accessFlags := 25, slot := 13, constantValue := 0 }, { name := "T_DOUBLE", type := .int, accessFlags := 25, slot := 14, constantValue := 0 }, { name := "T_BYTE", type := .int, accessFlags := 25, slot := 15, constantValue := 0 }, { name := "T_SHORT", type := .int, accessFlags := 25, slot := 16, constantValue := 0 }, { name := "T_INT", type := .int, accessFlags := 25, slot := 17, constantValue := 0 }, { name := "T_LONG", type := .int, accessFlags := 25, slot := 18, constantValue := 0 }, { name := "JLA", type := (.object "jdk/internal/access/JavaLangAccess"), accessFlags := 26, slot := 19, constantValue := 0 }, { name := "SOFT_MAX_ARRAY_LENGTH", type := .int, accessFlags := 25, slot := 20, constantValue := 0 }]
  methods := #[k16m0]
  instanceTypes := #[]
  staticTypes := #[(.object "jdk/internal/misc/Unsafe"), .boolean, .int, .int, .int, .int, .int, .int, .int, .int, .int, .int, .int, .int, .int, .int, .int, .int, .int, (.object "jdk/internal/access/JavaLangAccess"), .int]
  resolved := Array.replicate 378 none
  statics := none }

def pool17 : Array CpInfo := pool [(1, u "java/lang/Cloneable"), (0, .class_ 1), (0, u "java/lang/Object"), (0, .class_ 3)] 3

/-- java/lang/Cloneable -/
def k17 : Class := { plain "java/lang/Cloneable" (some 0) with
  accessFlags := 1537
  interfaces := #[]
  cf := some (fileOf pool17 2 #[] #[] 1537 4 #[] #[])
  fields := #[]
  methods := #[]
  instanceTypes := #[]
  staticTypes := #[]
  resolved := Array.replicate 8 none
  statics := none }

/-- the primitive byte -/
def k18 : Class := { plain "byte" none with kind := .primitive 'B', accessFlags := 0x411 }
/-- [B -/
def k19 : Class := { plain "[B" (some 0) with kind := .array 18 .byte, interfaces := #[17, 2], accessFlags := 1041 }

/-- the primitive char -/
def k20 : Class := { plain "char" none with kind := .primitive 'C', accessFlags := 0x411 }
/-- [C -/
def k21 : Class := { plain "[C" (some 0) with kind := .array 20 .char, interfaces := #[17, 2], accessFlags := 1041 }

/-- the primitive int -/
def k22 : Class := { plain "int" none with kind := .primitive 'I', accessFlags := 0x411 }
/-- [I -/
def k23 : Class := { plain "[I" (some 0) with kind := .array 22 .int, interfaces := #[17, 2], accessFlags := 1041 }

def heap : Heap := #[{ cls := 7, slots := #[.long 0, .int 1, .null, .int 0, .null, .int 0, .int 0], vm := .statics 7 },
  { cls := 8, slots := #[.int 0, .int 8, .int 0, .int 1], vm := .statics 8 },
  { cls := 13, slots := #[.null, .null, .null], vm := .statics 13 }]
def classes : Array Class := #[k0, k1, k2, k3, k4, k5, k6, k7, k8, k9, k10, k11, k12, k13, k14, k15, k16, k17, k18, k19, k20, k21, k22, k23]
def interned : List (Array UInt16 × Addr) := []
def slotsUsed : Nat := 14
def theMethod : MethodId := ⟨1, 1⟩
def args0 : Array Value := #[.int 4194369, .int 7, .int 5]
def aboutOver (below : List Frame) : State where
  vm := { classes := classes, interned := interned.toArray }
  heap := heap
  slotsUsed := slotsUsed
  threads := #[{ frames := .invoking theMethod args0 :: below }]
def below0 : List Frame := [.native { method := ⟨0, 0⟩, args := #[] }]
def about1 : State := aboutOver below0
def p0 : Program := .bare "" "" ""
def e0 : Env := launch0.env 0 0 0
theorem w_frames : about1.frames = Frame.invoking theMethod args0 :: below0 := rfl
set_option maxRecDepth 65536 in
theorem w_args : argsFit about1.vm theMethod args0 = true := by decide +kernel
set_option maxRecDepth 65536 in
theorem w_heap : heapFits about1 = true := by decide +kernel
set_option maxRecDepth 65536 in
theorem w_runnable : about1.curStatus? = some .runnable := by decide +kernel
set_option maxRecDepth 65536 in
theorem w_alone : about1.alone = true := by decide +kernel
set_option maxRecDepth 65536 in
theorem w_named : about1.methodNamed? x = some theMethod := by decide +kernel
set_option maxRecDepth 65536 in
theorem w_hears : about1.hears theMethod below0 = true := by decide +kernel
set_option maxRecDepth 65536 in
theorem w_ripe : about1.ripe theMethod args0 below0 = true := by decide +kernel
theorem w_running : about1.status = .running := rfl
set_option maxRecDepth 65536 in
theorem w_room : about1.hasRoom e0.platform room_1 = true :=
  launch0.hasRoom_least _ room_1 (by decide +kernel) (by decide +kernel) (by decide +kernel) (by decide +kernel) (by decide +kernel) (by decide +kernel)
theorem allAtoms_all (ts : List Jvm.Cond) (a : Array Jvm.Value) (st : Jvm.State) : (allAtoms ts).before a st = ts.all (fun c => c.before a st) := by
  induction ts with
  | nil => rfl
  | cons c t ih =>
    show (Jvm.Cond.and c (allAtoms t)).before a st = _
    rw [Jvm.Cond.before_and, ih, List.all_cons]
def words1 : List Jvm.Cond := Jvm.Cond.code x code maxLocals ret :: tables_1
/-- a 'code' word, met by the world's own term for the bytes: nothing is compared byte by byte -/
theorem code_word {y : MethodName} {bytes : ByteArray} {mx : Nat} {rt : Option FieldType} {a : Array Value} {s : State} {m : MethodId} {meth : Method} {c : Code} (h1 : s.methodNamed? y = some m) (h2 : s.vm.method? m = some meth) (h3 : meth.code = some c) (h4 : c.code = bytes)
    (h5 : (c.maxLocals == mx && c.exceptionTable.isEmpty && decide (c.maxStack ≤ mostOperands) && decide (meth.sig.returnType = rt) && !meth.locks && decide (parseMethodDescriptor y.desc = some meth.sig)) = true) : (Jvm.Cond.code y bytes mx rt).before a s = true := by
  simp only [Bool.and_eq_true, beq_iff_eq, Bool.not_eq_true', decide_eq_true_eq] at h5
  obtain ⟨⟨⟨⟨⟨g1, g2⟩, g3⟩, g4⟩, g5⟩, g6⟩ := h5
  simp [Cond.before, Cond.holds, Cond.value, h1, h2, h3, h4, g1, g2, g3, g4, g5, g6]
def isCode : Jvm.Cond → Bool
  | .code _ _ _ _ => true
  | _ => false
theorem all_split {L : List Jvm.Cond} {P : Jvm.Cond → Bool} (h1 : L.all (fun c => isCode c || P c) = true) (h2 : ∀ c ∈ L.filter isCode, P c = true) : L.all P = true := by
  refine List.all_eq_true.mpr fun c hc => ?_
  have h := List.all_eq_true.mp h1 c hc
  rcases Bool.eq_false_or_eq_true (isCode c) with hi | hi
  · exact h2 c (List.mem_filter.mpr ⟨hc, hi⟩)
  · simpa [hi] using h
set_option maxRecDepth 65536 in
theorem w_c0 : (Jvm.Cond.code x code maxLocals ret).before args0 about1 = true := code_word (m := ⟨1, 1⟩) (meth := k1m1) (c := k1c1) (by decide +kernel) rfl rfl rfl (by decide +kernel)
set_option maxRecDepth 65536 in
theorem w_c1 : (Jvm.Cond.code ({ cls := "com/example/heredity/heredity/CodePointOrderComparePinLaw", name := "str", desc := "(ICC)Ljava/lang/String;" } : Jvm.MethodName) method_3_code (3 : Nat) (Option.some (Jvm.ClassFile.FieldType.object "java/lang/String"))).before args0 about1 = true := code_word (m := ⟨1, 2⟩) (meth := k1m2) (c := k1c2) (by decide +kernel) rfl rfl rfl (by decide +kernel)
set_option maxRecDepth 65536 in
theorem w_c2 : (Jvm.Cond.code ({ cls := "java/lang/String", name := "<init>", desc := "([C)V" } : Jvm.MethodName) jdk_42_method_3_code (2 : Nat) (Option.none : Option Jvm.ClassFile.FieldType)).before args0 about1 = true := code_word (m := ⟨7, 1⟩) (meth := k7m1) (c := k7c1) (by decide +kernel) rfl rfl rfl (by decide +kernel)
set_option maxRecDepth 65536 in
theorem w_c3 : (Jvm.Cond.code ({ cls := "java/lang/String", name := "<init>", desc := "([CIILjava/lang/Void;)V" } : Jvm.MethodName) jdk_42_method_149_code (6 : Nat) (Option.none : Option Jvm.ClassFile.FieldType)).before args0 about1 = true := code_word (m := ⟨7, 4⟩) (meth := k7m4) (c := k7c4) (by decide +kernel) rfl rfl rfl (by decide +kernel)
set_option maxRecDepth 65536 in
theorem w_c4 : (Jvm.Cond.code ({ cls := "java/lang/Object", name := "<init>", desc := "()V" } : Jvm.MethodName) object_method_1_code (1 : Nat) (Option.none : Option Jvm.ClassFile.FieldType)).before args0 about1 = true := code_word (m := ⟨0, 0⟩) (meth := k0m0) (c := k0c0) (by decide +kernel) rfl rfl rfl (by decide +kernel)
set_option maxRecDepth 65536 in
theorem w_c5 : (Jvm.Cond.code ({ cls := "java/lang/StringUTF16", name := "compress", desc := "([CII)[B" } : Jvm.MethodName) jdk_52_method_16_code (6 : Nat) (Option.some (Jvm.ClassFile.FieldType.array Jvm.ClassFile.FieldType.byte))).before args0 about1 = true := code_word (m := ⟨8, 8⟩) (meth := k8m8) (c := k8c8) (by decide +kernel) rfl rfl rfl (by decide +kernel)
set_option maxRecDepth 65536 in
theorem w_c6 : (Jvm.Cond.code ({ cls := "java/lang/StringUTF16", name := "compress", desc := "([CI[BII)I" } : Jvm.MethodName) jdk_52_method_21_code (7 : Nat) (Option.some Jvm.ClassFile.FieldType.int)).before args0 about1 = true := code_word (m := ⟨8, 9⟩) (meth := k8m9) (c := k8c9) (by decide +kernel) rfl rfl rfl (by decide +kernel)
set_option maxRecDepth 65536 in
theorem w_c7 : (Jvm.Cond.code ({ cls := "java/lang/StringUTF16", name := "coderFromArrayLen", desc := "([BI)B" } : Jvm.MethodName) jdk_52_method_15_code (2 : Nat) (Option.some Jvm.ClassFile.FieldType.byte)).before args0 about1 = true := code_word (m := ⟨8, 7⟩) (meth := k8m7) (c := k8c7) (by decide +kernel) rfl rfl rfl (by decide +kernel)
set_option maxRecDepth 65536 in
theorem w_c8 : (Jvm.Cond.code ({ cls := "com/example/heredity/heredity/CodePointOrderComparePinLaw", name := "ref", desc := "(ICCICC)I" } : Jvm.MethodName) method_6_code (7 : Nat) (Option.some Jvm.ClassFile.FieldType.int)).before args0 about1 = true := code_word (m := ⟨1, 5⟩) (meth := k1m5) (c := k1c5) (by decide +kernel) rfl rfl rfl (by decide +kernel)
set_option maxRecDepth 65536 in
theorem w_c9 : (Jvm.Cond.code ({ cls := "java/lang/Math", name := "min", desc := "(II)I" } : Jvm.MethodName) jdk_29_method_69_code (2 : Nat) (Option.some Jvm.ClassFile.FieldType.int)).before args0 about1 = true := code_word (m := ⟨9, 1⟩) (meth := k9m1) (c := k9c1) (by decide +kernel) rfl rfl rfl (by decide +kernel)
set_option maxRecDepth 65536 in
theorem w_c10 : (Jvm.Cond.code ({ cls := "com/example/heredity/heredity/CodePointOrder", name := "compare", desc := "(Ljava/lang/String;Ljava/lang/String;)I" } : Jvm.MethodName) prog_1_method_2_code (6 : Nat) (Option.some Jvm.ClassFile.FieldType.int)).before args0 about1 = true := code_word (m := ⟨10, 1⟩) (meth := k10m1) (c := k10c1) (by decide +kernel) rfl rfl rfl (by decide +kernel)
set_option maxRecDepth 65536 in
theorem w_c11 : (Jvm.Cond.code ({ cls := "java/lang/String", name := "length", desc := "()I" } : Jvm.MethodName) jdk_42_method_54_code (1 : Nat) (Option.some Jvm.ClassFile.FieldType.int)).before args0 about1 = true := code_word (m := ⟨7, 2⟩) (meth := k7m2) (c := k7c2) (by decide +kernel) rfl rfl rfl (by decide +kernel)
set_option maxRecDepth 65536 in
theorem w_c12 : (Jvm.Cond.code ({ cls := "java/lang/String", name := "coder", desc := "()B" } : Jvm.MethodName) jdk_42_method_152_code (1 : Nat) (Option.some Jvm.ClassFile.FieldType.byte)).before args0 about1 = true := code_word (m := ⟨7, 5⟩) (meth := k7m5) (c := k7c5) (by decide +kernel) rfl rfl rfl (by decide +kernel)
set_option maxRecDepth 65536 in
theorem w_c13 : (Jvm.Cond.code ({ cls := "java/lang/Integer", name := "compare", desc := "(II)I" } : Jvm.MethodName) jdk_33_method_40_code (2 : Nat) (Option.some Jvm.ClassFile.FieldType.int)).before args0 about1 = true := code_word (m := ⟨12, 0⟩) (meth := k12m0) (c := k12c0) (by decide +kernel) rfl rfl rfl (by decide +kernel)
set_option maxRecDepth 65536 in
theorem w_c14 : (Jvm.Cond.code ({ cls := "java/lang/StringUTF16", name := "toBytes", desc := "([CII)[B" } : Jvm.MethodName) jdk_52_method_14_code (5 : Nat) (Option.some (Jvm.ClassFile.FieldType.array Jvm.ClassFile.FieldType.byte))).before args0 about1 = true := code_word (m := ⟨8, 6⟩) (meth := k8m6) (c := k8c6) (by decide +kernel) rfl rfl rfl (by decide +kernel)
set_option maxRecDepth 65536 in
theorem w_c15 : (Jvm.Cond.code ({ cls := "java/lang/StringUTF16", name := "newBytesFor", desc := "(I)[B" } : Jvm.MethodName) jdk_52_method_2_code (1 : Nat) (Option.some (Jvm.ClassFile.FieldType.array Jvm.ClassFile.FieldType.byte))).before args0 about1 = true := code_word (m := ⟨8, 1⟩) (meth := k8m1) (c := k8c1) (by decide +kernel) rfl rfl rfl (by decide +kernel)
set_option maxRecDepth 65536 in
theorem w_c16 : (Jvm.Cond.code ({ cls := "java/lang/StringUTF16", name := "newBytesLength", desc := "(I)I" } : Jvm.MethodName) jdk_52_method_3_code (1 : Nat) (Option.some Jvm.ClassFile.FieldType.int)).before args0 about1 = true := code_word (m := ⟨8, 2⟩) (meth := k8m2) (c := k8c2) (by decide +kernel) rfl rfl rfl (by decide +kernel)
set_option maxRecDepth 65536 in
theorem w_c17 : (Jvm.Cond.code ({ cls := "java/lang/StringUTF16", name := "putChar", desc := "([BII)V" } : Jvm.MethodName) jdk_52_method_4_code (3 : Nat) (Option.none : Option Jvm.ClassFile.FieldType)).before args0 about1 = true := code_word (m := ⟨8, 3⟩) (meth := k8m3) (c := k8c3) (by decide +kernel) rfl rfl rfl (by decide +kernel)
set_option maxRecDepth 65536 in
theorem w_c18 : (Jvm.Cond.code ({ cls := "java/lang/StringUTF16", name := "getChar", desc := "([BI)C" } : Jvm.MethodName) jdk_52_method_5_code (2 : Nat) (Option.some Jvm.ClassFile.FieldType.char)).before args0 about1 = true := code_word (m := ⟨8, 4⟩) (meth := k8m4) (c := k8c4) (by decide +kernel) rfl rfl rfl (by decide +kernel)
set_option maxRecDepth 65536 in
theorem w_c19 : (Jvm.Cond.code ({ cls := "com/example/heredity/heredity/CodePointOrderComparePinLaw", name := "cmpKeys", desc := "(CC)I" } : Jvm.MethodName) method_5_code (4 : Nat) (Option.some Jvm.ClassFile.FieldType.int)).before args0 about1 = true := code_word (m := ⟨1, 4⟩) (meth := k1m4) (c := k1c4) (by decide +kernel) rfl rfl rfl (by decide +kernel)
set_option maxRecDepth 65536 in
theorem w_c20 : (Jvm.Cond.code ({ cls := "com/example/heredity/heredity/CodePointOrderComparePinLaw", name := "key", desc := "(C)I" } : Jvm.MethodName) method_4_code (2 : Nat) (Option.some Jvm.ClassFile.FieldType.int)).before args0 about1 = true := code_word (m := ⟨1, 3⟩) (meth := k1m3) (c := k1c3) (by decide +kernel) rfl rfl rfl (by decide +kernel)
set_option maxRecDepth 65536 in
theorem w_c21 : (Jvm.Cond.code ({ cls := "java/lang/String", name := "charAt", desc := "(I)C" } : Jvm.MethodName) jdk_42_method_56_code (2 : Nat) (Option.some Jvm.ClassFile.FieldType.char)).before args0 about1 = true := code_word (m := ⟨7, 3⟩) (meth := k7m3) (c := k7c3) (by decide +kernel) rfl rfl rfl (by decide +kernel)
set_option maxRecDepth 65536 in
theorem w_c22 : (Jvm.Cond.code ({ cls := "java/lang/String", name := "isLatin1", desc := "()Z" } : Jvm.MethodName) jdk_42_method_154_code (1 : Nat) (Option.some Jvm.ClassFile.FieldType.boolean)).before args0 about1 = true := code_word (m := ⟨7, 6⟩) (meth := k7m6) (c := k7c6) (by decide +kernel) rfl rfl rfl (by decide +kernel)
set_option maxRecDepth 65536 in
theorem w_c23 : (Jvm.Cond.code ({ cls := "java/lang/StringUTF16", name := "charAt", desc := "([BI)C" } : Jvm.MethodName) jdk_52_method_83_code (2 : Nat) (Option.some Jvm.ClassFile.FieldType.char)).before args0 about1 = true := code_word (m := ⟨8, 10⟩) (meth := k8m10) (c := k8c10) (by decide +kernel) rfl rfl rfl (by decide +kernel)
set_option maxRecDepth 65536 in
theorem w_c24 : (Jvm.Cond.code ({ cls := "java/lang/StringUTF16", name := "checkIndex", desc := "(I[B)V" } : Jvm.MethodName) jdk_52_method_91_code (2 : Nat) (Option.none : Option Jvm.ClassFile.FieldType)).before args0 about1 = true := code_word (m := ⟨8, 11⟩) (meth := k8m11) (c := k8c11) (by decide +kernel) rfl rfl rfl (by decide +kernel)
set_option maxRecDepth 65536 in
theorem w_c25 : (Jvm.Cond.code ({ cls := "java/lang/StringUTF16", name := "length", desc := "([B)I" } : Jvm.MethodName) jdk_52_method_6_code (1 : Nat) (Option.some Jvm.ClassFile.FieldType.int)).before args0 about1 = true := code_word (m := ⟨8, 5⟩) (meth := k8m5) (c := k8c5) (by decide +kernel) rfl rfl rfl (by decide +kernel)
set_option maxRecDepth 65536 in
theorem w_c26 : (Jvm.Cond.code ({ cls := "java/lang/String", name := "checkIndex", desc := "(II)V" } : Jvm.MethodName) jdk_42_method_155_code (2 : Nat) (Option.none : Option Jvm.ClassFile.FieldType)).before args0 about1 = true := code_word (m := ⟨7, 7⟩) (meth := k7m7) (c := k7c7) (by decide +kernel) rfl rfl rfl (by decide +kernel)
set_option maxRecDepth 65536 in
theorem w_c27 : (Jvm.Cond.code ({ cls := "jdk/internal/util/Preconditions", name := "checkIndex", desc := "(IILjava/util/function/BiFunction;)I" } : Jvm.MethodName) jdk_41_method_11_code (3 : Nat) (Option.some Jvm.ClassFile.FieldType.int)).before args0 about1 = true := code_word (m := ⟨13, 1⟩) (meth := k13m1) (c := k13c1) (by decide +kernel) rfl rfl rfl (by decide +kernel)
set_option maxRecDepth 65536 in
theorem w_c28 : (Jvm.Cond.code ({ cls := "com/example/heredity/heredity/CodePointOrder", name := "rank", desc := "(C)I" } : Jvm.MethodName) prog_1_method_3_code (1 : Nat) (Option.some Jvm.ClassFile.FieldType.int)).before args0 about1 = true := code_word (m := ⟨10, 2⟩) (meth := k10m2) (c := k10c2) (by decide +kernel) rfl rfl rfl (by decide +kernel)
set_option maxRecDepth 65536 in
theorem w_c29 : (Jvm.Cond.code ({ cls := "java/lang/Character", name := "isSurrogate", desc := "(C)Z" } : Jvm.MethodName) jdk_89_method_16_code (1 : Nat) (Option.some Jvm.ClassFile.FieldType.boolean)).before args0 about1 = true := code_word (m := ⟨14, 0⟩) (meth := k14m0) (c := k14c0) (by decide +kernel) rfl rfl rfl (by decide +kernel)
set_option maxRecDepth 65536 in
theorem w_c30 : (Jvm.Cond.code ({ cls := "java/lang/StringLatin1", name := "charAt", desc := "([BI)C" } : Jvm.MethodName) jdk_43_method_2_code (2 : Nat) (Option.some Jvm.ClassFile.FieldType.char)).before args0 about1 = true := code_word (m := ⟨15, 1⟩) (meth := k15m1) (c := k15c1) (by decide +kernel) rfl rfl rfl (by decide +kernel)
def codes1 : List Jvm.Cond := [Jvm.Cond.code x code maxLocals ret, Jvm.Cond.code ({ cls := "com/example/heredity/heredity/CodePointOrderComparePinLaw", name := "str", desc := "(ICC)Ljava/lang/String;" } : Jvm.MethodName) method_3_code (3 : Nat) (Option.some (Jvm.ClassFile.FieldType.object "java/lang/String")), Jvm.Cond.code ({ cls := "java/lang/String", name := "<init>", desc := "([C)V" } : Jvm.MethodName) jdk_42_method_3_code (2 : Nat) (Option.none : Option Jvm.ClassFile.FieldType), Jvm.Cond.code ({ cls := "java/lang/String", name := "<init>", desc := "([CIILjava/lang/Void;)V" } : Jvm.MethodName) jdk_42_method_149_code (6 : Nat) (Option.none : Option Jvm.ClassFile.FieldType), Jvm.Cond.code ({ cls := "java/lang/Object", name := "<init>", desc := "()V" } : Jvm.MethodName) object_method_1_code (1 : Nat) (Option.none : Option Jvm.ClassFile.FieldType), Jvm.Cond.code ({ cls := "java/lang/StringUTF16", name := "compress", desc := "([CII)[B" } : Jvm.MethodName) jdk_52_method_16_code (6 : Nat) (Option.some (Jvm.ClassFile.FieldType.array Jvm.ClassFile.FieldType.byte)), Jvm.Cond.code ({ cls := "java/lang/StringUTF16", name := "compress", desc := "([CI[BII)I" } : Jvm.MethodName) jdk_52_method_21_code (7 : Nat) (Option.some Jvm.ClassFile.FieldType.int), Jvm.Cond.code ({ cls := "java/lang/StringUTF16", name := "coderFromArrayLen", desc := "([BI)B" } : Jvm.MethodName) jdk_52_method_15_code (2 : Nat) (Option.some Jvm.ClassFile.FieldType.byte), Jvm.Cond.code ({ cls := "com/example/heredity/heredity/CodePointOrderComparePinLaw", name := "ref", desc := "(ICCICC)I" } : Jvm.MethodName) method_6_code (7 : Nat) (Option.some Jvm.ClassFile.FieldType.int), Jvm.Cond.code ({ cls := "java/lang/Math", name := "min", desc := "(II)I" } : Jvm.MethodName) jdk_29_method_69_code (2 : Nat) (Option.some Jvm.ClassFile.FieldType.int), Jvm.Cond.code ({ cls := "com/example/heredity/heredity/CodePointOrder", name := "compare", desc := "(Ljava/lang/String;Ljava/lang/String;)I" } : Jvm.MethodName) prog_1_method_2_code (6 : Nat) (Option.some Jvm.ClassFile.FieldType.int), Jvm.Cond.code ({ cls := "java/lang/String", name := "length", desc := "()I" } : Jvm.MethodName) jdk_42_method_54_code (1 : Nat) (Option.some Jvm.ClassFile.FieldType.int), Jvm.Cond.code ({ cls := "java/lang/String", name := "coder", desc := "()B" } : Jvm.MethodName) jdk_42_method_152_code (1 : Nat) (Option.some Jvm.ClassFile.FieldType.byte), Jvm.Cond.code ({ cls := "java/lang/Integer", name := "compare", desc := "(II)I" } : Jvm.MethodName) jdk_33_method_40_code (2 : Nat) (Option.some Jvm.ClassFile.FieldType.int), Jvm.Cond.code ({ cls := "java/lang/StringUTF16", name := "toBytes", desc := "([CII)[B" } : Jvm.MethodName) jdk_52_method_14_code (5 : Nat) (Option.some (Jvm.ClassFile.FieldType.array Jvm.ClassFile.FieldType.byte)), Jvm.Cond.code ({ cls := "java/lang/StringUTF16", name := "newBytesFor", desc := "(I)[B" } : Jvm.MethodName) jdk_52_method_2_code (1 : Nat) (Option.some (Jvm.ClassFile.FieldType.array Jvm.ClassFile.FieldType.byte)), Jvm.Cond.code ({ cls := "java/lang/StringUTF16", name := "newBytesLength", desc := "(I)I" } : Jvm.MethodName) jdk_52_method_3_code (1 : Nat) (Option.some Jvm.ClassFile.FieldType.int), Jvm.Cond.code ({ cls := "java/lang/StringUTF16", name := "putChar", desc := "([BII)V" } : Jvm.MethodName) jdk_52_method_4_code (3 : Nat) (Option.none : Option Jvm.ClassFile.FieldType), Jvm.Cond.code ({ cls := "java/lang/StringUTF16", name := "getChar", desc := "([BI)C" } : Jvm.MethodName) jdk_52_method_5_code (2 : Nat) (Option.some Jvm.ClassFile.FieldType.char), Jvm.Cond.code ({ cls := "com/example/heredity/heredity/CodePointOrderComparePinLaw", name := "cmpKeys", desc := "(CC)I" } : Jvm.MethodName) method_5_code (4 : Nat) (Option.some Jvm.ClassFile.FieldType.int), Jvm.Cond.code ({ cls := "com/example/heredity/heredity/CodePointOrderComparePinLaw", name := "key", desc := "(C)I" } : Jvm.MethodName) method_4_code (2 : Nat) (Option.some Jvm.ClassFile.FieldType.int), Jvm.Cond.code ({ cls := "java/lang/String", name := "charAt", desc := "(I)C" } : Jvm.MethodName) jdk_42_method_56_code (2 : Nat) (Option.some Jvm.ClassFile.FieldType.char), Jvm.Cond.code ({ cls := "java/lang/String", name := "isLatin1", desc := "()Z" } : Jvm.MethodName) jdk_42_method_154_code (1 : Nat) (Option.some Jvm.ClassFile.FieldType.boolean), Jvm.Cond.code ({ cls := "java/lang/StringUTF16", name := "charAt", desc := "([BI)C" } : Jvm.MethodName) jdk_52_method_83_code (2 : Nat) (Option.some Jvm.ClassFile.FieldType.char), Jvm.Cond.code ({ cls := "java/lang/StringUTF16", name := "checkIndex", desc := "(I[B)V" } : Jvm.MethodName) jdk_52_method_91_code (2 : Nat) (Option.none : Option Jvm.ClassFile.FieldType), Jvm.Cond.code ({ cls := "java/lang/StringUTF16", name := "length", desc := "([B)I" } : Jvm.MethodName) jdk_52_method_6_code (1 : Nat) (Option.some Jvm.ClassFile.FieldType.int), Jvm.Cond.code ({ cls := "java/lang/String", name := "checkIndex", desc := "(II)V" } : Jvm.MethodName) jdk_42_method_155_code (2 : Nat) (Option.none : Option Jvm.ClassFile.FieldType), Jvm.Cond.code ({ cls := "jdk/internal/util/Preconditions", name := "checkIndex", desc := "(IILjava/util/function/BiFunction;)I" } : Jvm.MethodName) jdk_41_method_11_code (3 : Nat) (Option.some Jvm.ClassFile.FieldType.int), Jvm.Cond.code ({ cls := "com/example/heredity/heredity/CodePointOrder", name := "rank", desc := "(C)I" } : Jvm.MethodName) prog_1_method_3_code (1 : Nat) (Option.some Jvm.ClassFile.FieldType.int), Jvm.Cond.code ({ cls := "java/lang/Character", name := "isSurrogate", desc := "(C)Z" } : Jvm.MethodName) jdk_89_method_16_code (1 : Nat) (Option.some Jvm.ClassFile.FieldType.boolean), Jvm.Cond.code ({ cls := "java/lang/StringLatin1", name := "charAt", desc := "([BI)C" } : Jvm.MethodName) jdk_43_method_2_code (2 : Nat) (Option.some Jvm.ClassFile.FieldType.char)]
set_option maxRecDepth 65536 in
theorem codes_eq : words1.filter isCode = codes1 := rfl
theorem w_codes : ∀ c ∈ words1.filter isCode, c.before args0 about1 = true := by
  rw [codes_eq]
  intro c hc
  simp only [codes1, List.mem_cons, List.not_mem_nil, or_false] at hc
  rcases hc with rfl | rfl | rfl | rfl | rfl | rfl | rfl | rfl | rfl | rfl | rfl | rfl | rfl | rfl | rfl | rfl | rfl | rfl | rfl | rfl | rfl | rfl | rfl | rfl | rfl | rfl | rfl | rfl | rfl | rfl | rfl
  · exact w_c0
  · exact w_c1
  · exact w_c2
  · exact w_c3
  · exact w_c4
  · exact w_c5
  · exact w_c6
  · exact w_c7
  · exact w_c8
  · exact w_c9
  · exact w_c10
  · exact w_c11
  · exact w_c12
  · exact w_c13
  · exact w_c14
  · exact w_c15
  · exact w_c16
  · exact w_c17
  · exact w_c18
  · exact w_c19
  · exact w_c20
  · exact w_c21
  · exact w_c22
  · exact w_c23
  · exact w_c24
  · exact w_c25
  · exact w_c26
  · exact w_c27
  · exact w_c28
  · exact w_c29
  · exact w_c30
set_option maxRecDepth 65536 in
theorem w_t1 : (words1.take 24).all (fun c => isCode c || c.before args0 about1) = true := by decide +kernel
set_option maxRecDepth 65536 in
theorem w_t2 : ((words1.drop 24).take 24).all (fun c => isCode c || c.before args0 about1) = true := by decide +kernel
set_option maxRecDepth 65536 in
theorem w_t3 : (((words1.drop 24).drop 24).take 24).all (fun c => isCode c || c.before args0 about1) = true := by decide +kernel
set_option maxRecDepth 65536 in
theorem w_t4 : ((((words1.drop 24).drop 24).drop 24).take 24).all (fun c => isCode c || c.before args0 about1) = true := by decide +kernel
set_option maxRecDepth 65536 in
theorem w_t5 : (((((words1.drop 24).drop 24).drop 24).drop 24).take 24).all (fun c => isCode c || c.before args0 about1) = true := by decide +kernel
set_option maxRecDepth 65536 in
theorem w_t6 : (((((words1.drop 24).drop 24).drop 24).drop 24).drop 24).all (fun c => isCode c || c.before args0 about1) = true := by decide +kernel
theorem w_tables : (allAtoms (Jvm.Cond.code x code maxLocals ret :: tables_1)).before args0 about1 = true := by
  rw [allAtoms_all]
  show words1.all (fun c => c.before args0 about1) = true
  refine all_split ?_ w_codes
  rw [← List.take_append_drop 24 words1, List.all_append, w_t1, ← List.take_append_drop 24 (words1.drop 24), List.all_append, w_t2, ← List.take_append_drop 24 ((words1.drop 24).drop 24), List.all_append, w_t3, ← List.take_append_drop 24 (((words1.drop 24).drop 24).drop 24), List.all_append, w_t4, ← List.take_append_drop 24 ((((words1.drop 24).drop 24).drop 24).drop 24), List.all_append, w_t5, w_t6]
  rfl
set_option maxRecDepth 65536 in
theorem w_rest : rest_1_c.before args0 about1 = true := by decide +kernel
set_option maxRecDepth 65536 in
theorem w_case : (Jvm.Cond.and given_1 narrow_1).before args0 about1 = true := by decide +kernel
set_option maxRecDepth 65536 in
theorem w_consts : constsHeld consts_1 about1 := Jvm.Lit.constsHeldB_iff.mp (by decide +kernel)
theorem w_applies : (headSpec (Jvm.Cond.code x code maxLocals ret :: tables_1) room_1).applies x e0.platform about1 = true :=
  (Spec.applies_iff w_frames).mpr ⟨w_running, w_runnable, w_alone, w_named, w_hears, w_ripe, w_room, w_tables⟩
theorem atStart : AtStart classFile x code maxLocals ret World_1 tables_1 room_1 Calls_1 rest_1 Pre_1 launch0 p0 e0 about1 theMethod args0 below0 :=
  ⟨lists_1, trivial, launch0.admits_env _ _ _, launch0.least_env, fairChoices_fair.cas, fairChoices_fair.clock, w_frames, w_args, w_heap, w_applies, ⟨w_consts, trivial⟩, w_rest, w_case⟩
end start1
theorem witness_1 : WitnessClaimed_1 := ⟨start1.p0, start1.e0, start1.about1, start1.theMethod, start1.args0, start1.below0, start1.atStart⟩
end Jvm.Pilot.@@N@@
