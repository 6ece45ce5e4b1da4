import JvmDerived
import JvmDerived.Pilot.@@N@@Statement
import JvmDerived.Pilot.@@N@@Code
set_option linter.unusedVariables false
set_option linter.unusedSimpArgs false
/-! own layer 1: a walk's state as ONE fact (Wk), the goal in continuation form (Go), a contract (Ctr); each law of the family once more in that form. -/
namespace Jvm.OwnKit
open Sem ClassFile Op Lib Bundle Jvm.Stand Jvm.Free Jvm.LawKit Jvm.RoadKit
def Go (p : Program) (e : Env) (below : List Frame) (P : Outcome → State → Prop) (S : State) : Prop :=
  ∃ s₂ o, Steps p.tables e below S s₂ ∧ s₂.status = .running ∧ Ended s₂ below o ∧ P o s₂
theorem Go.st {p : Program} {e : Env} {below : List Frame} {P : Outcome → State → Prop} {S S' : State} (k : Go p e below P S') (st : ∀ t, Steps p.tables e below S' t → Steps p.tables e below S t) : Go p e below P S := by
  obtain ⟨s₂, o, h1, h2⟩ := k
  exact ⟨s₂, o, st _ h1, h2⟩
def Ends (nw : Bool) (U : State) (o : Outcome) (U' : State) (L : List Loc) (k n : Nat) : Prop := ReturnedEndW U o U' L k n ∧ (nw = true → U.WarmedH U'.vm)
def Pst (nw : Bool) (EL : List (String × Nat)) (Z : State) (s : State) (rm : Room) (Q : Option Value → Heap → (Addr → Prop) → Prop) (o : Outcome) (U' : State) : Prop :=
  ∃ v L, o = .returned v ∧ Q v U'.heap (fun x => x < U'.heap.size ∧ Safe Z EL U'.vm U'.heap x) ∧ Fr Z.heap.size L ∧ Ext Z.heap U'.heap ∧ CHr Z EL s.vm s.heap U'.vm U'.heap ∧ Ends nw s o U' L rm.cells rm.slots
def Ctr (nw : Bool) (EL : List (String × Nat)) (Z : State) (l : Launch) (y : MethodName) (bytes : ByteArray) (maxL : Nat) (ret : Option FieldType) (rm : Room) (as' : Array Value) (h0 : Heap) (S : List Addr) (Q : Option Value → Heap → (Addr → Prop) → Prop) : Prop :=
  ∀ ws : List Jvm.Cond, MetFree l y (head1 (Jvm.Cond.code y bytes maxL ret :: ws) rm) (fun a U => a = as' ∧ Z.Warmed39 U.vm ∧ U.heap = h0 ∧ CHv Z EL U.vm h0 ∧ ∀ x ∈ S, x < h0.size ∧ Safe Z EL U.vm h0 x) (fun _ _ _ _ _ => True) (fun _ U o U' => Pst nw EL Z U rm Q o U')
def Cx (p : Program) (bytes : ByteArray) (maxL : Nat) (ret : Option FieldType) (nm : String) (meth : Method) (c : Code) : Prop :=
  p.tables.exec = Jvm.exec ∧ c.code = bytes ∧ c.maxLocals = maxL ∧ meth.sig.returnType = ret ∧ meth.name = nm ∧ meth.locks = false
def Wk (nw : Bool) (EL : List (String × Nat)) (Z : State) (a0 : Array Value) (own : String) (bytes : ByteArray) (maxL : Nat) (ret : Option FieldType) (nm : String)
    (p : Program) (l : Launch) (e : Env) (R : Room) (s : State) (m : MethodId) (args : Array Value) (below : List Frame) (meth : Method) (c : Code) (T : State) (h : Heap) (S : List Addr) (cells slots : Nat) : Prop :=
  (∃ locs, Stand p l e R (s.setVm T.vm) m args below meth c T locs cells slots ∧ Fr Z.heap.size locs) ∧ T.heap = h ∧ Z.Warmed39 T.vm ∧ T.vm.findClass own = some m.cls ∧ (∃ k0, s.Since T.vm k0 ∧ k0 ≤ h.size) ∧ CHr Z EL s.vm s.heap T.vm h ∧
    (∀ x ∈ S, x < h.size ∧ Safe Z EL T.vm h x) ∧ (nw = true → s.WarmedH T.vm) ∧ EW Z a0 EL ∧ Cx p bytes maxL ret nm meth c ∧ Ext Z.heap h
section Laws
variable {nw : Bool} {EL : List (String × Nat)} {Z : State} {a0 : Array Value} {own : String} {bytes : ByteArray} {maxL : Nat} {ret : Option FieldType} {nm : String}
  {p : Program} {l : Launch} {e : Env} {R : Room} {s : State} {m : MethodId} {args : Array Value} {below : List Frame} {meth : Method} {c : Code} {T T' : State} {h h' : Heap} {S : List Addr} {cells slots cells' slots' : Nat}
  {P : Outcome → State → Prop} {pc pc' : Nat} {Ls Ls' : Array Slot} {st : List Value}
theorem Wk.at (w : Wk nw EL Z a0 own bytes maxL ret nm p l e R s m args below meth c T h S cells slots) : At T m c below := by obtain ⟨⟨_, X, _⟩, _⟩ := w; exact X.here
theorem Wk.ex (w : Wk nw EL Z a0 own bytes maxL ret nm p l e R s m args below meth c T h S cells slots) : p.tables.exec = Jvm.exec := by obtain ⟨_, _, _, _, _, _, _, _, _, k, _⟩ := w; exact k.1
theorem Wk.by (w : Wk nw EL Z a0 own bytes maxL ret nm p l e R s m args below meth c T h S cells slots) : c.code = bytes := by obtain ⟨_, _, _, _, _, _, _, _, _, k, _⟩ := w; exact k.2.1
theorem Wk.old (w : Wk nw EL Z a0 own bytes maxL ret nm p l e R s m args below meth c T h S cells slots) : Ext Z.heap h := by obtain ⟨_, _, _, _, _, _, _, _, _, _, k⟩ := w; exact k
theorem Wk.ewl (w : Wk nw EL Z a0 own bytes maxL ret nm p l e R s m args below meth c T h S cells slots) : EW Z a0 EL := by obtain ⟨_, _, _, _, _, _, _, _, k, _, _⟩ := w; exact k
theorem Wk.wz (w : Wk nw EL Z a0 own bytes maxL ret nm p l e R s m args below meth c T h S cells slots) : Z.Warmed39 T.vm := by obtain ⟨_, _, k, _⟩ := w; exact k
theorem Wk.sub (w : Wk nw EL Z a0 own bytes maxL ret nm p l e R s m args below meth c T h S cells slots) {S' : List Addr} (q : ∀ x ∈ S', x ∈ S) : Wk nw EL Z a0 own bytes maxL ret nm p l e R s m args below meth c T h S' cells slots := by
  obtain ⟨k1, k2, k3, k4, k5, k6, k7, k8⟩ := w
  exact ⟨k1, k2, k3, k4, k5, k6, fun x hx => k7 x (q x hx), k8⟩
theorem Wk.more (w : Wk nw EL Z a0 own bytes maxL ret nm p l e R s m args below meth c T h S cells slots) (q : cells ≤ cells') (q' : slots ≤ slots') : Wk nw EL Z a0 own bytes maxL ret nm p l e R s m args below meth c T h S cells' slots' := by
  obtain ⟨⟨locs, X, N⟩, k2⟩ := w
  exact ⟨⟨locs, X.mono q q', N⟩, k2⟩
theorem Wk.safe (w : Wk nw EL Z a0 own bytes maxL ret nm p l e R s m args below meth c T h S cells slots) {x : Addr} (q : x ∈ S) : Safe Z EL T.vm h x := by obtain ⟨_, _, _, _, _, _, k, _⟩ := w; exact (k x q).2
theorem Wk.sfe (w : Wk nw EL Z a0 own bytes maxL ret nm p l e R s m args below meth c T h S cells slots) {x : Addr} (q : x ∈ S) : x < h.size ∧ Safe Z EL T.vm h x := by obtain ⟨_, _, _, _, _, _, k, _⟩ := w; exact k x q
theorem Wk.addS (w : Wk nw EL Z a0 own bytes maxL ret nm p l e R s m args below meth c T h S cells slots) {y : Addr} (q : y < h.size ∧ Safe Z EL T.vm h y) : Wk nw EL Z a0 own bytes maxL ret nm p l e R s m args below meth c T h (y :: S) cells slots := by
  obtain ⟨k1, k2, k3, k4, k5, k6, k7, k8⟩ := w
  refine ⟨k1, k2, k3, k4, k5, k6, fun x hx => ?_, k8⟩
  rcases List.mem_cons.mp hx with rfl | hx
  · exact q
  · exact k7 x hx
/-- an object of a class that is neither String nor byte[] is no literal's -/
theorem Wk.safeExa (w : Wk nw EL Z a0 own bytes maxL ret nm p l e R s m args below meth c T h S cells slots) {x : Addr} {C : String} (E : Exa Z h x C) (h1 : C ≠ "java/lang/String") (h2 : C ≠ "[B") : Safe Z EL T.vm h x := Safe.exa w.wz.alike E h1 h2
theorem Wk.safeArv (w : Wk nw EL Z a0 own bytes maxL ret nm p l e R s m args below meth c T h S cells slots) {x : Addr} {k : ClassId} {ty : FieldType} {z : Int32} {vs : List Value} {d : Value} (A : Arv Z h x k ty z vs d) (h1 : ty ≠ .byte) : Safe Z EL T.vm h x := Safe.arv w.wz.alike A h1
/-- the step's law has given a Stand over the tables at hand: the walk's one fact goes on -/
theorem Wk.next (w : Wk nw EL Z a0 own bytes maxL ret nm p l e R s m args below meth c T h S cells slots) {locs' : List Loc} {ws : List Addr}
    (X' : Stand p l e R (s.setVm T.vm) m args below meth c T' locs' cells' slots') (N' : Fr Z.heap.size locs') (e' : T'.heap = h') (K : Keep h h' ws) (hs : ∀ x ∈ ws, Z.heap.size ≤ x ∧ Safe Z EL T.vm h x) :
    Wk nw EL Z a0 own bytes maxL ret nm p l e R s m args below meth c T' h' S cells' slots' := by
  obtain ⟨⟨locs, X, N⟩, eT, hZ, hown, ⟨k0, hS, hk⟩, hC, hSf, hnw, hEL, hcx, hn⟩ := w
  have A := CHr.keep K (fun x hx => (hs x hx).2) hC.1
  have B := CHv.at X' hZ hEL A.1
  have AB := A.trans B
  exact ⟨⟨locs', X'.retabled X'.warmed.wide, N'⟩, e', wtrans (s := s.setVm T.vm) hZ X'.warmed, (X'.warmed.alike.findClass _ _).trans hown,
    ⟨h'.size, hS.trans (X'.warmed.since h'.size) (Nat.le_trans hk K.1), Nat.le_refl _⟩, hC.trans AB, fun x hx => ⟨Nat.lt_of_lt_of_le (hSf x hx).1 K.1, AB.safe (hSf x hx).1 (hSf x hx).2⟩,
    fun q => State.WarmedH.trans (hnw q) X'.warmed, hEL, hcx, (Old.keep ⟨rfl, hn⟩ K fun x hx => (hs x hx).1).2⟩
theorem keepExt (E : Ext h h') : Keep h h' [] := (Keep.refl h []).ext E
theorem noSafe {vm : Vm} : ∀ x ∈ ([] : List Addr), Z.heap.size ≤ x ∧ Safe Z EL vm h x := fun _ q => nomatch q
theorem oneSafe {vm : Vm} {a : Addr} (q0 : Z.heap.size ≤ a) (q : Safe Z EL vm h a) : ∀ x ∈ [a], Z.heap.size ≤ x ∧ Safe Z EL vm h x := fun x hx => by cases List.mem_singleton.mp hx; exact ⟨q0, q⟩
/-- the entry of a body -/
theorem ctrOfN {y : MethodName} {rm : Room} {as' : Array Value} {h0 : Heap} {Q : Option Value → Heap → (Addr → Prop) → Prop} (hp : plainFor y = true) (hE : EW Z a0 EL) (hn : Ext Z.heap h0)
    (body : ∀ p e s m below meth c T, Z.methodNamed? y = some m → Wk nw EL Z a0 y.cls bytes maxL ret y.name p l e rm s m as' below meth c T h0 S 0 0 → Go p e below (Pst nw EL Z s rm Q) (T.setTop (entryFrame m as' maxL))) :
    Ctr nw EL Z l y bytes maxL ret rm as' h0 S Q := by
  intro ws
  refine MetFree.of_bodySF hp hisR ?_
  intro p e s m args below meth c s₁ Bd hml0 hP hK
  obtain ⟨rfl, hZ, hh, hC, hSf⟩ := hP
  have hown : s.vm.findClass y.cls = some m.cls := findClass_of_methodNamed Bd.named
  have hnm := (name_of_methodNamed Bd.named Bd.method).1
  have X0 : Stand p l e rm s m args below meth c s₁ [] 0 0 := Stand.of_body Bd
  have e0 : s₁.heap = h0 := by rw [← hh, Bd.state]; rfl
  have ev : s₁.vm = s.vm := by rw [Bd.state]; rfl
  subst hh
  refine body p e s m below meth c s₁ ((named_alike (U := Z) (U' := s) hZ.alike y).symm.trans Bd.named) ⟨⟨[], ?_, Fr.nil Z.heap.size⟩, e0, by rw [ev]; exact hZ, by rw [ev]; exact hown, ⟨s.heap.size, by rw [ev]; exact (State.WarmedH.refl s).since _, Nat.le_refl _⟩, by rw [ev]; exact CHr.refl hC, by rw [ev]; exact hSf, fun _ => by rw [ev]; exact State.WarmedH.refl s, hE, ⟨Bd.exec, Bd.bytes, hml0, Bd.returns, hnm, Bd.notSynchronized⟩, hn⟩
  rw [ev]; exact X0
theorem ctrOf {y : MethodName} {rm : Room} {as' : Array Value} {h0 : Heap} {Q : Option Value → Heap → (Addr → Prop) → Prop} (hp : plainFor y = true) (hE : EW Z a0 EL) (hn : Ext Z.heap h0)
    (body : ∀ p e s m below meth c T, Wk nw EL Z a0 y.cls bytes maxL ret y.name p l e rm s m as' below meth c T h0 S 0 0 → Go p e below (Pst nw EL Z s rm Q) (T.setTop (entryFrame m as' maxL))) :
    Ctr nw EL Z l y bytes maxL ret rm as' h0 S Q := ctrOfN hp hE hn fun p e s m below meth c T _ w => body p e s m below meth c T w
theorem goEntry {g : JFrame} {f : JFrame} (q : f = g) (k : Go p e below P (T.setTop g)) : Go p e below P (T.setTop f) := by subst q; exact k
/-- the end -/
theorem wRet (w : Wk nw EL Z a0 own bytes maxL ret nm p l e R s m args below meth c T h S cells slots) {Q : Option Value → Heap → (Addr → Prop) → Prop} {i : Instr} {t : FieldType} {v : Value} {rest : List Value} (hr : ret = some t) (hd : decode bytes pc = .ok (i, 1)) (hn : narrow t v = v)
    (hi : (i = .ireturn ∧ (t = .int ∨ t = .boolean ∨ t = .byte ∨ t = .char ∨ t = .short) ∧ ∃ z, v = .int z) ∨ (i = .lreturn ∧ t = .long ∧ ∃ z, v = .long z) ∨ (i = .dreturn ∧ t = .double ∧ ∃ z, v = .double z) ∨ (i = .freturn ∧ t = .float ∧ ∃ z, v = .float z) ∨ (i = .areturn ∧ t.isReference = true ∧ v.isRef = true))
    (hc : cells ≤ R.cells) (hs : slots ≤ R.slots) (hQ : Q (some v) h (fun x => x < h.size ∧ Safe Z EL T.vm h x)) : Go p e below (Pst nw EL Z s R Q) (T.setTop (mkF m pc Ls (v :: rest))) := by
  obtain ⟨⟨locs, X, N⟩, eT, hZ, hown, ⟨k0, hS, hk⟩, hC, hSf, hnw, hEL, ⟨hx, hby, hml, hret, hnm, hlk⟩, hn0⟩ := w
  subst eT
  obtain ⟨fs, h1, h2, h3, h4⟩ := (X.mono hc hs).leaveW hS hk (v := some v) (fun q => by rw [hret, hr] at q; cases q) hlk
  exact ⟨_, _, retOut X hx (hret.trans hr) hn hi (hb hby hd) h1, h2, h3, _, locs, rfl, hQ, N, hn0, hC, h4, hnw⟩
theorem wRetI (w : Wk nw EL Z a0 own bytes maxL (some .int) nm p l e R s m args below meth c T h S cells slots) {Q : Option Value → Heap → (Addr → Prop) → Prop} {z : Int32} {rest : List Value} (hd : decode bytes pc = .ok (.ireturn, 1)) (hc : cells ≤ R.cells) (hs : slots ≤ R.slots) (hQ : Q (some (.int z)) h (fun x => x < h.size ∧ Safe Z EL T.vm h x)) : Go p e below (Pst nw EL Z s R Q) (T.setTop (mkF m pc Ls (.int z :: rest))) :=
  wRet w rfl hd rfl (Or.inl ⟨rfl, Or.inl rfl, z, rfl⟩) hc hs hQ
theorem wRetZ (w : Wk nw EL Z a0 own bytes maxL (some .boolean) nm p l e R s m args below meth c T h S cells slots) {Q : Option Value → Heap → (Addr → Prop) → Prop} {z : Int32} {rest : List Value} (hd : decode bytes pc = .ok (.ireturn, 1)) (hz : z = 0 ∨ z = 1) (hc : cells ≤ R.cells) (hs : slots ≤ R.slots) (hQ : Q (some (.int z)) h (fun x => x < h.size ∧ Safe Z EL T.vm h x)) : Go p e below (Pst nw EL Z s R Q) (T.setTop (mkF m pc Ls (.int z :: rest))) :=
  wRet w rfl hd (by rcases hz with rfl | rfl <;> rfl) (Or.inl ⟨rfl, Or.inr (Or.inl rfl), z, rfl⟩) hc hs hQ
theorem wRetC (w : Wk nw EL Z a0 own bytes maxL (some .char) nm p l e R s m args below meth c T h S cells slots) {Q : Option Value → Heap → (Addr → Prop) → Prop} {z : Int32} {rest : List Value} (hd : decode bytes pc = .ok (.ireturn, 1)) (hz : narrow .char (.int z) = .int z) (hc : cells ≤ R.cells) (hs : slots ≤ R.slots) (hQ : Q (some (.int z)) h (fun x => x < h.size ∧ Safe Z EL T.vm h x)) : Go p e below (Pst nw EL Z s R Q) (T.setTop (mkF m pc Ls (.int z :: rest))) :=
  wRet w rfl hd hz (Or.inl ⟨rfl, Or.inr (Or.inr (Or.inr (Or.inl rfl))), z, rfl⟩) hc hs hQ
theorem narR {t : FieldType} {v : Value} (h : v.isRef = true) : narrow t v = v := by rcases ref_cases h with rfl | ⟨a, rfl⟩ <;> cases t <;> rfl
theorem wRetA {t : FieldType} (w : Wk nw EL Z a0 own bytes maxL (some t) nm p l e R s m args below meth c T h S cells slots) {Q : Option Value → Heap → (Addr → Prop) → Prop} {v : Value} {rest : List Value} (hd : decode bytes pc = .ok (.areturn, 1)) (ht : t.isReference = true) (hv : v.isRef = true) (hc : cells ≤ R.cells) (hs : slots ≤ R.slots) (hQ : Q (some v) h (fun x => x < h.size ∧ Safe Z EL T.vm h x)) : Go p e below (Pst nw EL Z s R Q) (T.setTop (mkF m pc Ls (v :: rest))) :=
  wRet w rfl hd (narR hv) (Or.inr (Or.inr (Or.inr (Or.inr ⟨rfl, ht, hv⟩)))) hc hs hQ
theorem wRetVoid (w : Wk nw EL Z a0 own bytes maxL none nm p l e R s m args below meth c T h S cells slots) {Q : Option Value → Heap → (Addr → Prop) → Prop} (hd : decode bytes pc = .ok (.return_, 1)) (hc : cells ≤ R.cells) (hs : slots ≤ R.slots) (hQ : Q none h (fun x => x < h.size ∧ Safe Z EL T.vm h x)) : Go p e below (Pst nw EL Z s R Q) (T.setTop (mkF m pc Ls [])) := by
  obtain ⟨⟨locs, X, N⟩, eT, hZ, hown, ⟨k0, hS, hk⟩, hC, hSf, hnw, hEL, ⟨hx, hby, hml, hret, hnm, hlk⟩, hn0⟩ := w
  subst eT
  obtain ⟨fs, h1, h2, h3, h4⟩ := (X.mono hc hs).leaveW hS hk (v := none) (fun _ => rfl) hlk
  exact ⟨_, _, X.returnOut hx hret (hb hby hd) h1, h2, h3, _, locs, rfl, hQ, N, hn0, hC, h4, hnw⟩
theorem acEqT {x y : Value} (h : x = y) : XT.acmp .eq x y = true := decide_eq_true h
theorem acEqF {x y : Value} (h : ¬ x = y) : XT.acmp .eq x y = false := decide_eq_false h
theorem acNeT {x y : Value} (h : ¬ x = y) : XT.acmp .ne x y = true := decide_eq_true h
theorem acNeF {x y : Value} (h : x = y) : XT.acmp .ne x y = false := decide_eq_false fun q => q h
theorem catR {v : Value} (h : v.isRef = true) : v.category = 1 := by rcases ref_cases h with rfl | ⟨a, rfl⟩ <;> rfl
theorem goV {x y : Int32} (q : x = y) (k : Go p e below P (T.setTop (mkF m pc Ls (.int y :: st)))) : Go p e below P (T.setTop (mkF m pc Ls (.int x :: st))) := by subst q; exact k
theorem ltE {α : Type} {i n : Nat} {vs : List α} (hn : vs.length = n) (h : n ≤ i) : vs.length ≤ i := by rw [hn]; exact h
theorem ltL {α : Type} {i n : Nat} {vs : List α} (hn : vs.length = n) (h : i < n) : i < vs.length := by rw [hn]; exact h
theorem fitR {t : FieldType} {v : Value} (h : v.isRef = true) (ht : t.isReference = true) : fits t v = true := by
  rcases ref_cases h with rfl | ⟨a, rfl⟩ <;> cases t <;> first | rfl | cases ht
theorem narZ {z : Int32} (h : z = 0 ∨ z = 1) : narrow .boolean (.int z) = .int z := by rcases h with rfl | rfl <;> rfl
theorem fitZ {z : Int32} (h : z = 0 ∨ z = 1) : fits .boolean (.int z) = true := by rcases h with rfl | rfl <;> rfl
theorem sw0 : (([] : List Value).map fun v => v.category).sum ≤ 0 := Nat.le_refl _
theorem swS {v : Value} {L : List Value} {k n : Nat} (q : v.category ≤ k) (r : (L.map fun v => v.category).sum ≤ n) : ((v :: L).map fun v => v.category).sum ≤ k + n := by
  rw [List.map_cons, List.sum_cons]; exact Nat.add_le_add q r
theorem cat1 {a : Addr} : (Value.ref a).category ≤ 1 := Nat.le_refl _
theorem catN : Value.null.category ≤ 1 := Nat.le_refl _
theorem catI {z : Int32} : (Value.int z).category ≤ 1 := Nat.le_refl _
theorem catL {z : Int64} : (Value.long z).category ≤ 2 := Nat.le_refl _
/-! plain steps -/
theorem gAload (w : Wk nw EL Z a0 own bytes maxL ret nm p l e R s m args below meth c T h S cells slots) {k : Nat} {v : Value} (hd : decode bytes pc = .ok (.aload k, 2)) (hp : pc + 2 = pc') (hl : Ls[k]? = some (.val v)) (hv : v.isRef = true) (K : Go p e below P (T.setTop (mkF m pc' Ls (v :: st)))) : Go p e below P (T.setTop (mkF m pc Ls st)) := by
  subst hp; exact K.st fun t k => XS.aload w.at w.ex rfl (hb w.by hd) hl hv k
theorem gAloadN (w : Wk nw EL Z a0 own bytes maxL ret nm p l e R s m args below meth c T h S cells slots) {k : Fin 4} {v : Value} (hd : decode bytes pc = .ok (.aload_n k, 1)) (hp : pc + 1 = pc') (hl : Ls[k.val]? = some (.val v)) (hv : v.isRef = true) (K : Go p e below P (T.setTop (mkF m pc' Ls (v :: st)))) : Go p e below P (T.setTop (mkF m pc Ls st)) := by
  subst hp; exact K.st fun t k => XS.aloadN w.at w.ex rfl (hb w.by hd) hl hv k
theorem gIload (w : Wk nw EL Z a0 own bytes maxL ret nm p l e R s m args below meth c T h S cells slots) {k : Nat} {v : Int32} (hd : decode bytes pc = .ok (.iload k, 2)) (hp : pc + 2 = pc') (hl : Ls[k]? = some (.val (.int v))) (K : Go p e below P (T.setTop (mkF m pc' Ls (.int v :: st)))) : Go p e below P (T.setTop (mkF m pc Ls st)) := by
  subst hp; exact K.st fun t k => XS.iload w.at w.ex rfl (hb w.by hd) hl k
theorem gIloadN (w : Wk nw EL Z a0 own bytes maxL ret nm p l e R s m args below meth c T h S cells slots) {k : Fin 4} {v : Int32} (hd : decode bytes pc = .ok (.iload_n k, 1)) (hp : pc + 1 = pc') (hl : Ls[k.val]? = some (.val (.int v))) (K : Go p e below P (T.setTop (mkF m pc' Ls (.int v :: st)))) : Go p e below P (T.setTop (mkF m pc Ls st)) := by
  subst hp; exact K.st fun t k => XS.iloadN w.at w.ex rfl (hb w.by hd) hl k
theorem gLload (w : Wk nw EL Z a0 own bytes maxL ret nm p l e R s m args below meth c T h S cells slots) {k : Nat} {v : Int64} (hd : decode bytes pc = .ok (.lload k, 2)) (hp : pc + 2 = pc') (hl : Ls[k]? = some (.val (.long v))) (K : Go p e below P (T.setTop (mkF m pc' Ls (.long v :: st)))) : Go p e below P (T.setTop (mkF m pc Ls st)) := by
  subst hp; exact K.st fun t k => XT.lload w.at w.ex rfl (hb w.by hd) hl k
theorem gLloadN (w : Wk nw EL Z a0 own bytes maxL ret nm p l e R s m args below meth c T h S cells slots) {k : Fin 4} {v : Int64} (hd : decode bytes pc = .ok (.lload_n k, 1)) (hp : pc + 1 = pc') (hl : Ls[k.val]? = some (.val (.long v))) (K : Go p e below P (T.setTop (mkF m pc' Ls (.long v :: st)))) : Go p e below P (T.setTop (mkF m pc Ls st)) := by
  subst hp; exact K.st fun t k => XT.lloadN w.at w.ex rfl (hb w.by hd) hl k
theorem gIconst (w : Wk nw EL Z a0 own bytes maxL ret nm p l e R s m args below meth c T h S cells slots) {i : Int} {z : Int32} (hd : decode bytes pc = .ok (.iconst i, 1)) (hp : pc + 1 = pc') (hz : Int32.ofInt i = z) (K : Go p e below P (T.setTop (mkF m pc' Ls (.int z :: st)))) : Go p e below P (T.setTop (mkF m pc Ls st)) := by
  subst hp hz; exact K.st fun t k => XS.iconst w.at w.ex rfl (hb w.by hd) k
theorem gBipush (w : Wk nw EL Z a0 own bytes maxL ret nm p l e R s m args below meth c T h S cells slots) {i : Int} {z : Int32} (hd : decode bytes pc = .ok (.bipush i, 2)) (hp : pc + 2 = pc') (hz : (Int8.ofInt i).toInt32 = z) (K : Go p e below P (T.setTop (mkF m pc' Ls (.int z :: st)))) : Go p e below P (T.setTop (mkF m pc Ls st)) := by
  subst hp hz; exact K.st fun t k => XS.bipush w.at w.ex rfl (hb w.by hd) k
theorem gSipush (w : Wk nw EL Z a0 own bytes maxL ret nm p l e R s m args below meth c T h S cells slots) {i : Int} {z : Int32} (hd : decode bytes pc = .ok (.sipush i, 3)) (hp : pc + 3 = pc') (hz : (Int16.ofInt i).toInt32 = z) (K : Go p e below P (T.setTop (mkF m pc' Ls (.int z :: st)))) : Go p e below P (T.setTop (mkF m pc Ls st)) := by
  subst hp hz; exact K.st fun t k => XS.sipush w.at w.ex rfl (hb w.by hd) k
theorem gNull (w : Wk nw EL Z a0 own bytes maxL ret nm p l e R s m args below meth c T h S cells slots) (hd : decode bytes pc = .ok (.aconst_null, 1)) (hp : pc + 1 = pc') (K : Go p e below P (T.setTop (mkF m pc' Ls (.null :: st)))) : Go p e below P (T.setTop (mkF m pc Ls st)) := by
  subst hp; exact K.st fun t k => XS.aconstNull w.at w.ex rfl (hb w.by hd) k
theorem gDup (w : Wk nw EL Z a0 own bytes maxL ret nm p l e R s m args below meth c T h S cells slots) {v : Value} (hd : decode bytes pc = .ok (.dup, 1)) (hp : pc + 1 = pc') (hc : v.category = 1) (K : Go p e below P (T.setTop (mkF m pc' Ls (v :: v :: st)))) : Go p e below P (T.setTop (mkF m pc Ls (v :: st))) := by
  subst hp; exact K.st fun t k => XS.dup w.at w.ex rfl (hb w.by hd) rfl hc k
theorem gPop (w : Wk nw EL Z a0 own bytes maxL ret nm p l e R s m args below meth c T h S cells slots) {v : Value} (hd : decode bytes pc = .ok (.pop, 1)) (hp : pc + 1 = pc') (hc : v.category = 1) (K : Go p e below P (T.setTop (mkF m pc' Ls st))) : Go p e below P (T.setTop (mkF m pc Ls (v :: st))) := by
  subst hp; exact K.st fun t k => XT.pop w.at w.ex rfl (hb w.by hd) rfl hc k
theorem gIstore (w : Wk nw EL Z a0 own bytes maxL ret nm p l e R s m args below meth c T h S cells slots) {k : Nat} {v : Int32} (hd : decode bytes pc = .ok (.istore k, 2)) (hp : pc + 2 = pc') (hl : storeLocals Ls k (.int v) = some Ls') (K : Go p e below P (T.setTop (mkF m pc' Ls' st))) : Go p e below P (T.setTop (mkF m pc Ls (.int v :: st))) := by
  subst hp; exact K.st fun t k => XS.istore w.at w.ex rfl (hb w.by hd) rfl hl k
theorem gIstoreN (w : Wk nw EL Z a0 own bytes maxL ret nm p l e R s m args below meth c T h S cells slots) {k : Fin 4} {v : Int32} (hd : decode bytes pc = .ok (.istore_n k, 1)) (hp : pc + 1 = pc') (hl : storeLocals Ls k.val (.int v) = some Ls') (K : Go p e below P (T.setTop (mkF m pc' Ls' st))) : Go p e below P (T.setTop (mkF m pc Ls (.int v :: st))) := by
  subst hp; exact K.st fun t k => XS.istoreN w.at w.ex rfl (hb w.by hd) rfl hl k
theorem gAstore (w : Wk nw EL Z a0 own bytes maxL ret nm p l e R s m args below meth c T h S cells slots) {k : Nat} {v : Value} (hd : decode bytes pc = .ok (.astore k, 2)) (hp : pc + 2 = pc') (hv : v.isRef = true) (hl : storeLocals Ls k v = some Ls') (K : Go p e below P (T.setTop (mkF m pc' Ls' st))) : Go p e below P (T.setTop (mkF m pc Ls (v :: st))) := by
  subst hp; exact K.st fun t k => XS.astore w.at w.ex rfl (hb w.by hd) rfl hv hl k
theorem gAstoreN (w : Wk nw EL Z a0 own bytes maxL ret nm p l e R s m args below meth c T h S cells slots) {k : Fin 4} {v : Value} (hd : decode bytes pc = .ok (.astore_n k, 1)) (hp : pc + 1 = pc') (hv : v.isRef = true) (hl : storeLocals Ls k.val v = some Ls') (K : Go p e below P (T.setTop (mkF m pc' Ls' st))) : Go p e below P (T.setTop (mkF m pc Ls (v :: st))) := by
  subst hp; exact K.st fun t k => XS.astoreN w.at w.ex rfl (hb w.by hd) rfl hv hl k
theorem gLstore (w : Wk nw EL Z a0 own bytes maxL ret nm p l e R s m args below meth c T h S cells slots) {k : Nat} {v : Int64} (hd : decode bytes pc = .ok (.lstore k, 2)) (hp : pc + 2 = pc') (hl : storeLocals Ls k (.long v) = some Ls') (K : Go p e below P (T.setTop (mkF m pc' Ls' st))) : Go p e below P (T.setTop (mkF m pc Ls (.long v :: st))) := by
  subst hp; exact K.st fun t k => XT.lstore w.at w.ex rfl (hb w.by hd) rfl hl k
theorem gLstoreN (w : Wk nw EL Z a0 own bytes maxL ret nm p l e R s m args below meth c T h S cells slots) {k : Fin 4} {v : Int64} (hd : decode bytes pc = .ok (.lstore_n k, 1)) (hp : pc + 1 = pc') (hl : storeLocals Ls k.val (.long v) = some Ls') (K : Go p e below P (T.setTop (mkF m pc' Ls' st))) : Go p e below P (T.setTop (mkF m pc Ls (.long v :: st))) := by
  subst hp; exact K.st fun t k => XT.lstoreN w.at w.ex rfl (hb w.by hd) rfl hl k
theorem gIinc (w : Wk nw EL Z a0 own bytes maxL ret nm p l e R s m args below meth c T h S cells slots) {k : Nat} {cst : Int} {x : Int32} (hd : decode bytes pc = .ok (.iinc k cst, 3)) (hp : pc + 3 = pc') (hl : Ls[k]? = some (.val (.int x))) (hl' : storeLocals Ls k (.int (x + Int32.ofInt cst)) = some Ls') (K : Go p e below P (T.setTop (mkF m pc' Ls' st))) : Go p e below P (T.setTop (mkF m pc Ls st)) := by
  subst hp; exact K.st fun t k => XS.iinc w.at w.ex rfl (hb w.by hd) hl hl' k
theorem gGoto (w : Wk nw EL Z a0 own bytes maxL ret nm p l e R s m args below meth c T h S cells slots) {o : Int} (hd : decode bytes pc = .ok (.goto o, 3)) (ho : 0 ≤ (pc : Int) + o) (hp : ((pc : Int) + o).toNat = pc') (K : Go p e below P (T.setTop (mkF m pc' Ls st))) : Go p e below P (T.setTop (mkF m pc Ls st)) := by
  exact K.st fun t k => XS.goto w.at w.ex rfl (pc0 := pc) rfl (hb w.by hd) ho hp k
theorem gIfY (w : Wk nw EL Z a0 own bytes maxL ret nm p l e R s m args below meth c T h S cells slots) {cd : ClassFile.Cond} {x : Int32} {o : Int} (hd : decode bytes pc = .ok (.ifCond cd o, 3)) (hc : if_icmp.holds cd x 0 = true) (ho : 0 ≤ (pc : Int) + o) (hp : ((pc : Int) + o).toNat = pc') (K : Go p e below P (T.setTop (mkF m pc' Ls st))) : Go p e below P (T.setTop (mkF m pc Ls (.int x :: st))) := by
  exact K.st fun t k => XS.ifYes w.at w.ex rfl (pc0 := pc) rfl (hb w.by hd) rfl ((if0 _ _).trans hc) ho hp k
theorem gIfN (w : Wk nw EL Z a0 own bytes maxL ret nm p l e R s m args below meth c T h S cells slots) {cd : ClassFile.Cond} {x : Int32} {o : Int} (hd : decode bytes pc = .ok (.ifCond cd o, 3)) (hc : if_icmp.holds cd x 0 = false) (hp : pc + 3 = pc') (K : Go p e below P (T.setTop (mkF m pc' Ls st))) : Go p e below P (T.setTop (mkF m pc Ls (.int x :: st))) := by
  subst hp; exact K.st fun t k => XS.ifNo w.at w.ex rfl (hb w.by hd) rfl ((if0 _ _).trans hc) k
theorem gIcY (w : Wk nw EL Z a0 own bytes maxL ret nm p l e R s m args below meth c T h S cells slots) {cd : ClassFile.Cond} {x y : Int32} {o : Int} (hd : decode bytes pc = .ok (.if_icmp cd o, 3)) (hc : if_icmp.holds cd x y = true) (ho : 0 ≤ (pc : Int) + o) (hp : ((pc : Int) + o).toNat = pc') (K : Go p e below P (T.setTop (mkF m pc' Ls st))) : Go p e below P (T.setTop (mkF m pc Ls (.int y :: .int x :: st))) := by
  exact K.st fun t k => XS.icmpYes w.at w.ex rfl (pc0 := pc) rfl (hb w.by hd) rfl hc ho hp k
theorem gIcN (w : Wk nw EL Z a0 own bytes maxL ret nm p l e R s m args below meth c T h S cells slots) {cd : ClassFile.Cond} {x y : Int32} {o : Int} (hd : decode bytes pc = .ok (.if_icmp cd o, 3)) (hc : if_icmp.holds cd x y = false) (hp : pc + 3 = pc') (K : Go p e below P (T.setTop (mkF m pc' Ls st))) : Go p e below P (T.setTop (mkF m pc Ls (.int y :: .int x :: st))) := by
  subst hp; exact K.st fun t k => XS.icmpNo w.at w.ex rfl (hb w.by hd) rfl hc k
theorem gNullY (w : Wk nw EL Z a0 own bytes maxL ret nm p l e R s m args below meth c T h S cells slots) {o : Int} (hd : decode bytes pc = .ok (.ifnull o, 3)) (ho : 0 ≤ (pc : Int) + o) (hp : ((pc : Int) + o).toNat = pc') (K : Go p e below P (T.setTop (mkF m pc' Ls st))) : Go p e below P (T.setTop (mkF m pc Ls (.null :: st))) := by
  exact K.st fun t k => XS.ifnullYes w.at w.ex rfl (pc0 := pc) rfl (hb w.by hd) rfl ho hp k
theorem gNullN (w : Wk nw EL Z a0 own bytes maxL ret nm p l e R s m args below meth c T h S cells slots) {o : Int} {b : Addr} (hd : decode bytes pc = .ok (.ifnull o, 3)) (hp : pc + 3 = pc') (K : Go p e below P (T.setTop (mkF m pc' Ls st))) : Go p e below P (T.setTop (mkF m pc Ls (.ref b :: st))) := by
  subst hp; exact K.st fun t k => XS.ifnullNo w.at w.ex rfl (hb w.by hd) rfl k
theorem gNonnullY (w : Wk nw EL Z a0 own bytes maxL ret nm p l e R s m args below meth c T h S cells slots) {o : Int} {b : Addr} (hd : decode bytes pc = .ok (.ifnonnull o, 3)) (ho : 0 ≤ (pc : Int) + o) (hp : ((pc : Int) + o).toNat = pc') (K : Go p e below P (T.setTop (mkF m pc' Ls st))) : Go p e below P (T.setTop (mkF m pc Ls (.ref b :: st))) := by
  exact K.st fun t k => XT.ifnonnullYes w.at w.ex rfl (pc0 := pc) rfl (hb w.by hd) rfl ho hp k
theorem gNonnullN (w : Wk nw EL Z a0 own bytes maxL ret nm p l e R s m args below meth c T h S cells slots) {o : Int} (hd : decode bytes pc = .ok (.ifnonnull o, 3)) (hp : pc + 3 = pc') (K : Go p e below P (T.setTop (mkF m pc' Ls st))) : Go p e below P (T.setTop (mkF m pc Ls (.null :: st))) := by
  subst hp; exact K.st fun t k => XT.ifnonnullNo w.at w.ex rfl (hb w.by hd) rfl k
theorem gAcY (w : Wk nw EL Z a0 own bytes maxL ret nm p l e R s m args below meth c T h S cells slots) {cd : ClassFile.ACond} {x y : Value} {o : Int} (hd : decode bytes pc = .ok (.if_acmp cd o, 3)) (hx : x.isRef = true) (hy : y.isRef = true) (hc : XT.acmp cd x y = true) (ho : 0 ≤ (pc : Int) + o) (hp : ((pc : Int) + o).toNat = pc') (K : Go p e below P (T.setTop (mkF m pc' Ls st))) : Go p e below P (T.setTop (mkF m pc Ls (y :: x :: st))) := by
  exact K.st fun t k => XT.acmpYes w.at w.ex rfl (pc0 := pc) rfl (hb w.by hd) rfl hx hy hc ho hp k
theorem gAcN (w : Wk nw EL Z a0 own bytes maxL ret nm p l e R s m args below meth c T h S cells slots) {cd : ClassFile.ACond} {x y : Value} {o : Int} (hd : decode bytes pc = .ok (.if_acmp cd o, 3)) (hx : x.isRef = true) (hy : y.isRef = true) (hc : XT.acmp cd x y = false) (hp : pc + 3 = pc') (K : Go p e below P (T.setTop (mkF m pc' Ls st))) : Go p e below P (T.setTop (mkF m pc Ls (y :: x :: st))) := by
  subst hp; exact K.st fun t k => XT.acmpNo w.at w.ex rfl (hb w.by hd) rfl hx hy hc k
theorem gIrem (w : Wk nw EL Z a0 own bytes maxL ret nm p l e R s m args below meth c T h S cells slots) {x y : Int32} (hd : decode bytes pc = .ok (.irem, 1)) (hp : pc + 1 = pc') (hy : y ≠ 0) (K : Go p e below P (T.setTop (mkF m pc' Ls (.int (x % y) :: st)))) : Go p e below P (T.setTop (mkF m pc Ls (.int y :: .int x :: st))) := by
  subst hp
  refine K.st fun t k => ?_
  have q : x - x / y * y = x % y := irem_eq_mod x y
  exact XS.irem w.at w.ex rfl (hb w.by hd) rfl hy (by rw [q]; exact k)
theorem gIadd (w : Wk nw EL Z a0 own bytes maxL ret nm p l e R s m args below meth c T h S cells slots) {x : Int32} {y : Int32} (hd : decode bytes pc = .ok (.iadd, 1)) (hp : pc + 1 = pc') (K : Go p e below P (T.setTop (mkF m pc' Ls (.int (x + y) :: st)))) : Go p e below P (T.setTop (mkF m pc Ls (.int y :: .int x :: st))) := by
  subst hp; exact K.st fun t k => XS.iadd w.at w.ex rfl (hb w.by hd) rfl k
theorem gIsub (w : Wk nw EL Z a0 own bytes maxL ret nm p l e R s m args below meth c T h S cells slots) {x : Int32} {y : Int32} (hd : decode bytes pc = .ok (.isub, 1)) (hp : pc + 1 = pc') (K : Go p e below P (T.setTop (mkF m pc' Ls (.int (x - y) :: st)))) : Go p e below P (T.setTop (mkF m pc Ls (.int y :: .int x :: st))) := by
  subst hp; exact K.st fun t k => XS.isub w.at w.ex rfl (hb w.by hd) rfl k
theorem gImul (w : Wk nw EL Z a0 own bytes maxL ret nm p l e R s m args below meth c T h S cells slots) {x : Int32} {y : Int32} (hd : decode bytes pc = .ok (.imul, 1)) (hp : pc + 1 = pc') (K : Go p e below P (T.setTop (mkF m pc' Ls (.int (x * y) :: st)))) : Go p e below P (T.setTop (mkF m pc Ls (.int y :: .int x :: st))) := by
  subst hp; exact K.st fun t k => XS.imul w.at w.ex rfl (hb w.by hd) rfl k
theorem gIand (w : Wk nw EL Z a0 own bytes maxL ret nm p l e R s m args below meth c T h S cells slots) {x : Int32} {y : Int32} (hd : decode bytes pc = .ok (.iand, 1)) (hp : pc + 1 = pc') (K : Go p e below P (T.setTop (mkF m pc' Ls (.int (x &&& y) :: st)))) : Go p e below P (T.setTop (mkF m pc Ls (.int y :: .int x :: st))) := by
  subst hp; exact K.st fun t k => XS.iand w.at w.ex rfl (hb w.by hd) rfl k
theorem gIor (w : Wk nw EL Z a0 own bytes maxL ret nm p l e R s m args below meth c T h S cells slots) {x : Int32} {y : Int32} (hd : decode bytes pc = .ok (.ior, 1)) (hp : pc + 1 = pc') (K : Go p e below P (T.setTop (mkF m pc' Ls (.int (x ||| y) :: st)))) : Go p e below P (T.setTop (mkF m pc Ls (.int y :: .int x :: st))) := by
  subst hp; exact K.st fun t k => XT.ior w.at w.ex rfl (hb w.by hd) rfl k
theorem gIxor (w : Wk nw EL Z a0 own bytes maxL ret nm p l e R s m args below meth c T h S cells slots) {x : Int32} {y : Int32} (hd : decode bytes pc = .ok (.ixor, 1)) (hp : pc + 1 = pc') (K : Go p e below P (T.setTop (mkF m pc' Ls (.int (x ^^^ y) :: st)))) : Go p e below P (T.setTop (mkF m pc Ls (.int y :: .int x :: st))) := by
  subst hp; exact K.st fun t k => XT.ixor w.at w.ex rfl (hb w.by hd) rfl k
theorem gIshl (w : Wk nw EL Z a0 own bytes maxL ret nm p l e R s m args below meth c T h S cells slots) {x : Int32} {y : Int32} (hd : decode bytes pc = .ok (.ishl, 1)) (hp : pc + 1 = pc') (K : Go p e below P (T.setTop (mkF m pc' Ls (.int (x <<< (y &&& 31)) :: st)))) : Go p e below P (T.setTop (mkF m pc Ls (.int y :: .int x :: st))) := by
  subst hp; exact K.st fun t k => XT.ishl w.at w.ex rfl (hb w.by hd) rfl k
theorem gIshr (w : Wk nw EL Z a0 own bytes maxL ret nm p l e R s m args below meth c T h S cells slots) {x : Int32} {y : Int32} (hd : decode bytes pc = .ok (.ishr, 1)) (hp : pc + 1 = pc') (K : Go p e below P (T.setTop (mkF m pc' Ls (.int (x >>> (y &&& 31)) :: st)))) : Go p e below P (T.setTop (mkF m pc Ls (.int y :: .int x :: st))) := by
  subst hp; exact K.st fun t k => XT.ishr w.at w.ex rfl (hb w.by hd) rfl k
theorem gIushr (w : Wk nw EL Z a0 own bytes maxL ret nm p l e R s m args below meth c T h S cells slots) {x : Int32} {y : Int32} (hd : decode bytes pc = .ok (.iushr, 1)) (hp : pc + 1 = pc') (K : Go p e below P (T.setTop (mkF m pc' Ls (.int (XT.ushr x y) :: st)))) : Go p e below P (T.setTop (mkF m pc Ls (.int y :: .int x :: st))) := by
  subst hp; exact K.st fun t k => XT.iushr w.at w.ex rfl (hb w.by hd) rfl k
theorem gLadd (w : Wk nw EL Z a0 own bytes maxL ret nm p l e R s m args below meth c T h S cells slots) {x : Int64} {y : Int64} (hd : decode bytes pc = .ok (.ladd, 1)) (hp : pc + 1 = pc') (K : Go p e below P (T.setTop (mkF m pc' Ls (.long (x + y) :: st)))) : Go p e below P (T.setTop (mkF m pc Ls (.long y :: .long x :: st))) := by
  subst hp; exact K.st fun t k => XT.ladd w.at w.ex rfl (hb w.by hd) rfl k
theorem gLsub (w : Wk nw EL Z a0 own bytes maxL ret nm p l e R s m args below meth c T h S cells slots) {x : Int64} {y : Int64} (hd : decode bytes pc = .ok (.lsub, 1)) (hp : pc + 1 = pc') (K : Go p e below P (T.setTop (mkF m pc' Ls (.long (x - y) :: st)))) : Go p e below P (T.setTop (mkF m pc Ls (.long y :: .long x :: st))) := by
  subst hp; exact K.st fun t k => XT.lsub w.at w.ex rfl (hb w.by hd) rfl k
theorem gLand (w : Wk nw EL Z a0 own bytes maxL ret nm p l e R s m args below meth c T h S cells slots) {x : Int64} {y : Int64} (hd : decode bytes pc = .ok (.land, 1)) (hp : pc + 1 = pc') (K : Go p e below P (T.setTop (mkF m pc' Ls (.long (x &&& y) :: st)))) : Go p e below P (T.setTop (mkF m pc Ls (.long y :: .long x :: st))) := by
  subst hp; exact K.st fun t k => XT.land w.at w.ex rfl (hb w.by hd) rfl k
theorem gLor (w : Wk nw EL Z a0 own bytes maxL ret nm p l e R s m args below meth c T h S cells slots) {x : Int64} {y : Int64} (hd : decode bytes pc = .ok (.lor, 1)) (hp : pc + 1 = pc') (K : Go p e below P (T.setTop (mkF m pc' Ls (.long (x ||| y) :: st)))) : Go p e below P (T.setTop (mkF m pc Ls (.long y :: .long x :: st))) := by
  subst hp; exact K.st fun t k => XT.lor w.at w.ex rfl (hb w.by hd) rfl k
theorem gLushr (w : Wk nw EL Z a0 own bytes maxL ret nm p l e R s m args below meth c T h S cells slots) {x : Int64} {y : Int32} (hd : decode bytes pc = .ok (.lushr, 1)) (hp : pc + 1 = pc') (K : Go p e below P (T.setTop (mkF m pc' Ls (.long (XT.ushrL x y) :: st)))) : Go p e below P (T.setTop (mkF m pc Ls (.int y :: .long x :: st))) := by
  subst hp; exact K.st fun t k => XT.lushr w.at w.ex rfl (hb w.by hd) rfl k
theorem gLcmp (w : Wk nw EL Z a0 own bytes maxL ret nm p l e R s m args below meth c T h S cells slots) {x : Int64} {y : Int64} (hd : decode bytes pc = .ok (.lcmp, 1)) (hp : pc + 1 = pc') (K : Go p e below P (T.setTop (mkF m pc' Ls (.int (XT.cmpL x y) :: st)))) : Go p e below P (T.setTop (mkF m pc Ls (.long y :: .long x :: st))) := by
  subst hp; exact K.st fun t k => XT.lcmp w.at w.ex rfl (hb w.by hd) rfl k
theorem gI2c (w : Wk nw EL Z a0 own bytes maxL ret nm p l e R s m args below meth c T h S cells slots) {x z : Int32} (hd : decode bytes pc = .ok (.i2c, 1)) (hp : pc + 1 = pc') (hz : x.toUInt32.toUInt16.toUInt32.toInt32 = z) (K : Go p e below P (T.setTop (mkF m pc' Ls (.int z :: st)))) : Go p e below P (T.setTop (mkF m pc Ls (.int x :: st))) := by
  subst hp hz; exact K.st fun t k => XT.i2c w.at w.ex rfl (hb w.by hd) rfl k
theorem gI2b (w : Wk nw EL Z a0 own bytes maxL ret nm p l e R s m args below meth c T h S cells slots) {x : Int32} (hd : decode bytes pc = .ok (.i2b, 1)) (hp : pc + 1 = pc') (K : Go p e below P (T.setTop (mkF m pc' Ls (.int (x.toInt8.toInt32) :: st)))) : Go p e below P (T.setTop (mkF m pc Ls (.int x :: st))) := by
  subst hp; exact K.st fun t k => XT.i2b w.at w.ex rfl (hb w.by hd) rfl k
theorem gL2i (w : Wk nw EL Z a0 own bytes maxL ret nm p l e R s m args below meth c T h S cells slots) {x : Int64} (hd : decode bytes pc = .ok (.l2i, 1)) (hp : pc + 1 = pc') (K : Go p e below P (T.setTop (mkF m pc' Ls (.int (x.toInt32) :: st)))) : Go p e below P (T.setTop (mkF m pc Ls (.long x :: st))) := by
  subst hp; exact K.st fun t k => XT.l2i w.at w.ex rfl (hb w.by hd) rfl k
theorem gI2l (w : Wk nw EL Z a0 own bytes maxL ret nm p l e R s m args below meth c T h S cells slots) {x : Int32} (hd : decode bytes pc = .ok (.i2l, 1)) (hp : pc + 1 = pc') (K : Go p e below P (T.setTop (mkF m pc' Ls (.long (x.toInt64) :: st)))) : Go p e below P (T.setTop (mkF m pc Ls (.int x :: st))) := by
  subst hp; exact K.st fun t k => XT.i2l w.at w.ex rfl (hb w.by hd) rfl k
theorem gIneg (w : Wk nw EL Z a0 own bytes maxL ret nm p l e R s m args below meth c T h S cells slots) {x : Int32} (hd : decode bytes pc = .ok (.ineg, 1)) (hp : pc + 1 = pc') (K : Go p e below P (T.setTop (mkF m pc' Ls (.int (-x) :: st)))) : Go p e below P (T.setTop (mkF m pc Ls (.int x :: st))) := by
  subst hp; exact K.st fun t k => XS.ineg w.at w.ex rfl (hb w.by hd) rfl k
/-- as 'next', behind a step that only made cells: the first of them is the walk's own -/
theorem Wk.nextNew (w : Wk nw EL Z a0 own bytes maxL ret nm p l e R s m args below meth c T h S cells slots) {locs' : List Loc}
    (X' : Stand p l e R (s.setVm T.vm) m args below meth c T' locs' cells' slots') (N' : Fr Z.heap.size locs') (e' : T'.heap = h') (E : Ext h h') (hlt : h.size < h'.size) :
    Wk nw EL Z a0 own bytes maxL ret nm p l e R s m args below meth c T' h' (h.size :: S) cells' slots' := by
  have k := w.next X' N' e' (keepExt E) noSafe
  obtain ⟨⟨locs, X, N⟩, eT, hZ, hown, ⟨k0, hS, hk⟩, hC, hSf, hnw, hEL, hcx, hn⟩ := w
  have A := CHr.ext E hC.1
  have B := CHv.at X' hZ hEL A.1
  have S1 : Safe Z EL T.vm h' h.size := Safe.ext E hC.1 (Safe.new (Nat.le_refl _))
  have S2 : Safe Z EL T'.vm h' h.size := B.safe hlt S1
  obtain ⟨k1, k2, k3, k4, k5, k6, k7, k8⟩ := k
  refine ⟨k1, k2, k3, k4, k5, k6, fun x hx => ?_, k8⟩
  rcases List.mem_cons.mp hx with rfl | hx
  · exact ⟨hlt, S2⟩
  · exact k7 x hx
theorem wInitO (w : Wk nw EL Z a0 own bytes maxL ret nm p l e R s m args below meth c T h S cells slots) {index : Nat} (w1 : (Jvm.Cond.methodLink own index Lib.objectInit).before a0 Z = true) (w2 : (Jvm.Cond.instanceMethod Lib.objectInit).before a0 Z = true) (w3 : (Jvm.Cond.code Lib.objectInit ⟨#[0xb1]⟩ 1 none).before a0 Z = true)
    {a : Addr} (hd : decode bytes pc = .ok (.invokespecial index, 3)) (hp : pc + 3 = pc') (hsz : Ls.size = maxL) {WW : Nat} (hW : (st.map fun v => v.category).sum ≤ WW) (hf : 1 ≤ R.frames) (hl : WW + 12 ≤ R.locals)
    (K : ∀ T', Wk nw EL Z a0 own bytes maxL ret nm p l e R s m args below meth c T' h S cells slots → Go p e below P (T'.setTop (mkF m pc' Ls st))) : Go p e below P (T.setTop (mkF m pc Ls (.ref a :: st))) := by
  have w' := w
  obtain ⟨⟨locs, X, N⟩, eT, hZ, hown, ⟨k0, hS, hk⟩, hC, hSf, hnw, hEL, ⟨hx, hby, hml, hret, hnm, hlk⟩, hn0⟩ := w
  subst hp
  obtain ⟨T', X', e', st'⟩ := initO (Z := Z) (s := s.setVm T.vm) X hx hZ hown w1 w2 w3 eT (g := mkF m pc Ls (.ref a :: st)) rfl (hsz.trans hml.symm) rfl (hb hby hd) hf (W := WW) (by show 2 * 0 + _ ≤ _; omega) hl
  exact (K T' (w'.next X' N e' (Keep.refl h []) noSafe)).st st'
theorem wGetF (w : Wk nw EL Z a0 own bytes maxL ret nm p l e R s m args below meth c T h S cells slots) {index : Nat} {O n d : String} (wl : (Jvm.Cond.fieldLink own index O n d).before a0 Z = true) {a : Addr} {v : Value} (F : Fld Z h a O n d v) (hd : decode bytes pc = .ok (.getfield index, 3)) (hp : pc + 3 = pc')
    (K : ∀ T', Wk nw EL Z a0 own bytes maxL ret nm p l e R s m args below meth c T' h S cells slots → Go p e below P (T'.setTop (mkF m pc' Ls (v :: st)))) : Go p e below P (T.setTop (mkF m pc Ls (.ref a :: st))) := by
  have w' := w
  obtain ⟨⟨locs, X, N⟩, eT, hZ, hown, ⟨k0, hS, hk⟩, hC, hSf, hnw, hEL, ⟨hx, hby, hml, hret, hnm, hlk⟩, hn0⟩ := w
  subst hp
  obtain ⟨T', X', e', st'⟩ := getF (Z := Z) (s := s.setVm T.vm) X hx hZ hown (host := "") (Or.inl wl) Via.refl eT F (g := mkF m pc Ls (.ref a :: st)) rfl rfl (hb hby hd)
  exact (K T' (w'.next X' N e' (Keep.refl h []) noSafe)).st st'
theorem wGetFVia (w : Wk nw EL Z a0 own bytes maxL ret nm p l e R s m args below meth c T h S cells slots) {index : Nat} {R0 O n d host : String} (wl : (Jvm.Cond.fieldLink own index R0 n d).before a0 Z = true ∨ (Jvm.Cond.fieldLinkNest own index R0 n d host).before a0 Z = true) (via : Via Z R0 O n d) {a : Addr} {v : Value} (F : Fld Z h a O n d v) (hd : decode bytes pc = .ok (.getfield index, 3)) (hp : pc + 3 = pc')
    (K : ∀ T', Wk nw EL Z a0 own bytes maxL ret nm p l e R s m args below meth c T' h S cells slots → Go p e below P (T'.setTop (mkF m pc' Ls (v :: st)))) : Go p e below P (T.setTop (mkF m pc Ls (.ref a :: st))) := by
  have w' := w
  obtain ⟨⟨locs, X, N⟩, eT, hZ, hown, ⟨k0, hS, hk⟩, hC, hSf, hnw, hEL, ⟨hx, hby, hml, hret, hnm, hlk⟩, hn0⟩ := w
  subst hp
  obtain ⟨T', X', e', st'⟩ := getF (Z := Z) (s := s.setVm T.vm) X hx hZ hown wl via eT F (g := mkF m pc Ls (.ref a :: st)) rfl rfl (hb hby hd)
  exact (K T' (w'.next X' N e' (Keep.refl h []) noSafe)).st st'
theorem wGetS (w : Wk nw EL Z a0 own bytes maxL ret nm p l e R s m args below meth c T h S cells slots) {index : Nat} {O n d : String} (wl : (Jvm.Cond.fieldLink own index O n d).before a0 Z = true) {v : Value} (F : Sta Z h O n d v) (hd : decode bytes pc = .ok (.getstatic index, 3)) (hp : pc + 3 = pc')
    (K : ∀ T', Wk nw EL Z a0 own bytes maxL ret nm p l e R s m args below meth c T' h S cells slots → Go p e below P (T'.setTop (mkF m pc' Ls (v :: st)))) : Go p e below P (T.setTop (mkF m pc Ls st)) := by
  have w' := w
  obtain ⟨⟨locs, X, N⟩, eT, hZ, hown, ⟨k0, hS, hk⟩, hC, hSf, hnw, hEL, ⟨hx, hby, hml, hret, hnm, hlk⟩, hn0⟩ := w
  subst hp
  obtain ⟨T', X', e', st'⟩ := getS (Z := Z) (s := s.setVm T.vm) (host := "") X hx hZ hown wl Via.refl eT F (g := mkF m pc Ls st) rfl (hb hby hd)
  exact (K T' (w'.next X' N e' (Keep.refl h []) noSafe)).st st'
theorem wPutF (w : Wk nw EL Z a0 own bytes maxL ret nm p l e R s m args below meth c T h S cells slots) {index kk : Nat} {O n d C : String} {ty : FieldType} (wl : (Jvm.Cond.fieldLink own index O n d).before a0 Z = true)  {a : Addr} {v old : Value} (F : Fld Z h a O n d old) (E : Exa Z h a C)
    (L : (Jvm.Cond.lays C O n d).before a0 Z = true ∨ ((Jvm.Cond.laysFinal C O n d).before a0 Z = true ∧ own = O ∧ nm = "<init>")) (wi : (Jvm.Cond.instantiable C kk).before a0 Z = true) (hty : parseFieldDescriptor d = some ty) (hn : narrow ty v = v) (hf : fits ty v = true) (hn0' : Z.heap.size ≤ a) (hsf : Safe Z EL T.vm h a)
    (hd : decode bytes pc = .ok (.putfield index, 3)) (hp : pc + 3 = pc')
    (K : ∀ T' h', Wk nw EL Z a0 own bytes maxL ret nm p l e R s m args below meth c T' h' S cells slots → Wr h h' a (Jvm.RoadKit.slotOf Z O n d) v → Go p e below P (T'.setTop (mkF m pc' Ls st))) : Go p e below P (T.setTop (mkF m pc Ls (v :: .ref a :: st))) := by
  have w' := w
  obtain ⟨⟨locs, X, N⟩, eT, hZ, hown, ⟨k0, hS, hk⟩, hC, hSf, hnw, hEL, ⟨hx, hby, hml, hret, hnm, hlk⟩, hn0⟩ := w
  subst hp
  obtain ⟨T', h', X', e', W', st'⟩ := putF (Z := Z) (s := s.setVm T.vm) X hx hZ hown (host := "") (Or.inl wl) Via.refl eT F E (L.imp id fun q => ⟨q.1, q.2.1, hnm.trans q.2.2⟩) wi hty hn hf (g := mkF m pc Ls (v :: .ref a :: st)) rfl rfl (hb hby hd)
  exact (K T' h' (w'.next X' (Fr.snoc X' N hn0') e' (Keep.of_wr W') (oneSafe hn0' hsf)) W').st st'
theorem wPutFVia (w : Wk nw EL Z a0 own bytes maxL ret nm p l e R s m args below meth c T h S cells slots) {index kk : Nat} {R0 O n d host C : String} {ty : FieldType} (wl : (Jvm.Cond.fieldLink own index R0 n d).before a0 Z = true ∨ (Jvm.Cond.fieldLinkNest own index R0 n d host).before a0 Z = true) (via : Via Z R0 O n d) {a : Addr} {v old : Value} (F : Fld Z h a O n d old) (E : Exa Z h a C)
    (L : (Jvm.Cond.lays C O n d).before a0 Z = true ∨ ((Jvm.Cond.laysFinal C O n d).before a0 Z = true ∧ own = O ∧ nm = "<init>")) (wi : (Jvm.Cond.instantiable C kk).before a0 Z = true) (hty : parseFieldDescriptor d = some ty) (hn : narrow ty v = v) (hf : fits ty v = true) (hn0' : Z.heap.size ≤ a) (hsf : Safe Z EL T.vm h a)
    (hd : decode bytes pc = .ok (.putfield index, 3)) (hp : pc + 3 = pc')
    (K : ∀ T' h', Wk nw EL Z a0 own bytes maxL ret nm p l e R s m args below meth c T' h' S cells slots → Wr h h' a (Jvm.RoadKit.slotOf Z O n d) v → Go p e below P (T'.setTop (mkF m pc' Ls st))) : Go p e below P (T.setTop (mkF m pc Ls (v :: .ref a :: st))) := by
  have w' := w
  obtain ⟨⟨locs, X, N⟩, eT, hZ, hown, ⟨k0, hS, hk⟩, hC, hSf, hnw, hEL, ⟨hx, hby, hml, hret, hnm, hlk⟩, hn0⟩ := w
  subst hp
  obtain ⟨T', h', X', e', W', st'⟩ := putF (Z := Z) (s := s.setVm T.vm) X hx hZ hown wl via eT F E (L.imp id fun q => ⟨q.1, q.2.1, hnm.trans q.2.2⟩) wi hty hn hf (g := mkF m pc Ls (v :: .ref a :: st)) rfl rfl (hb hby hd)
  exact (K T' h' (w'.next X' (Fr.snoc X' N hn0') e' (Keep.of_wr W') (oneSafe hn0' hsf)) W').st st'
theorem wNew (w : Wk nw EL Z a0 own bytes maxL ret nm p l e R s m args below meth c T h S cells slots) {index n : Nat} {C : String} (wl : (Jvm.Cond.classLink own index C).before a0 Z = true) (wi : (Jvm.Cond.instantiable C n).before a0 Z = true) (wz : (Jvm.Cond.initialized C).before a0 Z = true) (hd : decode bytes pc = .ok (.new index, 3)) (hp : pc + 3 = pc') (hc : cells + 1 ≤ R.cells) (hl : slots + n ≤ R.slots)
    (K : ∀ T' h' b, b = h.size → Wk nw EL Z a0 own bytes maxL ret nm p l e R s m args below meth c T' h' S (cells + 1) (slots + n) → Keep h h' [] → Exa Z h' b C → (∀ {O nm d : String} {ty : FieldType}, Laid Z a0 C O nm d → parseFieldDescriptor d = some ty → Fld Z h' b O nm d (defaultValue ty)) → Go p e below P (T'.setTop (mkF m pc' Ls (.ref b :: st)))) : Go p e below P (T.setTop (mkF m pc Ls st)) := by
  have w' := w
  obtain ⟨⟨locs, X, N⟩, eT, hZ, hown, ⟨k0, hS, hk⟩, hC, hSf, hnw, hEL, ⟨hx, hby, hml, hret, hnm, hlk⟩, hn0⟩ := w
  subst hp
  obtain ⟨T', h', X', e', E', D', F', -, st'⟩ := newO (Z := Z) (s := s.setVm T.vm) X hx hZ hown wl wi wz eT (g := mkF m pc Ls st) rfl (hb hby hd) hc hl
  exact (K T' h' _ rfl (w'.next X' N e' (keepExt E') noSafe) (keepExt E') D' F').st st'
theorem wNewS (w : Wk nw EL Z a0 own bytes maxL ret nm p l e R s m args below meth c T h S cells slots) {index n : Nat} {C : String} (wl : (Jvm.Cond.classLink own index C).before a0 Z = true) (wi : (Jvm.Cond.instantiable C n).before a0 Z = true) (wz : (Jvm.Cond.initialized C).before a0 Z = true) (hd : decode bytes pc = .ok (.new index, 3)) (hp : pc + 3 = pc') (hc : cells + 1 ≤ R.cells) (hl : slots + n ≤ R.slots)
    (K : ∀ T' h' b, b = h.size → Wk nw EL Z a0 own bytes maxL ret nm p l e R s m args below meth c T' h' (b :: S) (cells + 1) (slots + n) → Keep h h' [] → Exa Z h' b C → (∀ {O nm d : String} {ty : FieldType}, Laid Z a0 C O nm d → parseFieldDescriptor d = some ty → Fld Z h' b O nm d (defaultValue ty)) → Go p e below P (T'.setTop (mkF m pc' Ls (.ref b :: st)))) : Go p e below P (T.setTop (mkF m pc Ls st)) := by
  have w' := w
  obtain ⟨⟨locs, X, N⟩, eT, hZ, hown, ⟨k0, hS, hk⟩, hC, hSf, hnw, hEL, ⟨hx, hby, hml, hret, hnm, hlk⟩, hn0⟩ := w
  subst hp
  obtain ⟨T', h', X', e', E', D', F', -, st'⟩ := newO (Z := Z) (s := s.setVm T.vm) X hx hZ hown wl wi wz eT (g := mkF m pc Ls st) rfl (hb hby hd) hc hl
  exact (K T' h' _ rfl (w'.nextNew X' N e' E' D'.lt) (keepExt E') D' F').st st'
theorem wNewP (w : Wk nw EL Z a0 own bytes maxL ret nm p l e R s m args below meth c T h S cells slots) {aty : ArrayType} {ty : FieldType} (hty : newarray.typeOf aty = ty) (wa : (Jvm.Cond.arrayClass ty).before a0 Z = true) {z : Int32} (hz : ¬ z < 0) (cap : Nat) (hcap : z.toNatClampNeg ≤ cap) (hb8 : cap * 8 ≤ 536870912) (hd : decode bytes pc = .ok (.newarray aty, 2)) (hp : pc + 2 = pc') (hc : cells + 1 ≤ R.cells) (hl : slots + cap ≤ R.slots)
    (K : ∀ T' h' b kc, b = h.size → Wk nw EL Z a0 own bytes maxL ret nm p l e R s m args below meth c T' h' S (cells + 1) (slots + cap) → Keep h h' [] → Arv Z h' b kc ty z [] (defaultValue ty) → Go p e below P (T'.setTop (mkF m pc' Ls (.ref b :: st)))) : Go p e below P (T.setTop (mkF m pc Ls (.int z :: st))) := by
  have w' := w
  obtain ⟨⟨locs, X, N⟩, eT, hZ, hown, ⟨k0, hS, hk⟩, hC, hSf, hnw, hEL, ⟨hx, hby, hml, hret, hnm, hlk⟩, hn0⟩ := w
  subst hp
  subst hty
  obtain ⟨T', h', cA, X', e', E', A', st'⟩ := newP (Z := Z) (s := s.setVm T.vm) X hx hZ wa eT (g := mkF m pc Ls (.int z :: st)) rfl (hb hby hd) rfl hz hcap hb8 hc hl
  exact (K T' h' _ cA rfl (w'.next X' N e' (keepExt E') noSafe) (keepExt E') (Arv.new A' hz)).st st'
theorem wNewPS (w : Wk nw EL Z a0 own bytes maxL ret nm p l e R s m args below meth c T h S cells slots) {aty : ArrayType} {ty : FieldType} (hty : newarray.typeOf aty = ty) (wa : (Jvm.Cond.arrayClass ty).before a0 Z = true) {z : Int32} (hz : ¬ z < 0) (cap : Nat) (hcap : z.toNatClampNeg ≤ cap) (hb8 : cap * 8 ≤ 536870912) (hd : decode bytes pc = .ok (.newarray aty, 2)) (hp : pc + 2 = pc') (hc : cells + 1 ≤ R.cells) (hl : slots + cap ≤ R.slots)
    (K : ∀ T' h' b kc, b = h.size → Wk nw EL Z a0 own bytes maxL ret nm p l e R s m args below meth c T' h' (b :: S) (cells + 1) (slots + cap) → Keep h h' [] → Arv Z h' b kc ty z [] (defaultValue ty) → Go p e below P (T'.setTop (mkF m pc' Ls (.ref b :: st)))) : Go p e below P (T.setTop (mkF m pc Ls (.int z :: st))) := by
  have w' := w
  obtain ⟨⟨locs, X, N⟩, eT, hZ, hown, ⟨k0, hS, hk⟩, hC, hSf, hnw, hEL, ⟨hx, hby, hml, hret, hnm, hlk⟩, hn0⟩ := w
  subst hp
  subst hty
  obtain ⟨T', h', cA, X', e', E', A', st'⟩ := newP (Z := Z) (s := s.setVm T.vm) X hx hZ wa eT (g := mkF m pc Ls (.int z :: st)) rfl (hb hby hd) rfl hz hcap hb8 hc hl
  exact (K T' h' _ cA rfl (w'.nextNew X' N e' E' A'.lt) (keepExt E') (Arv.new A' hz)).st st'
theorem wNewR (w : Wk nw EL Z a0 own bytes maxL ret nm p l e R s m args below meth c T h S cells slots) {index : Nat} {C : String} (wl : (Jvm.Cond.classLink own index C).before a0 Z = true) (wa : (Jvm.Cond.arrayOver (.object C)).before a0 Z = true) {z : Int32} (hz : ¬ z < 0) (cap : Nat) (hcap : z.toNatClampNeg ≤ cap) (hb8 : cap * 8 ≤ 536870912) (hd : decode bytes pc = .ok (.anewarray index, 3)) (hp : pc + 3 = pc') (hc : cells + 1 ≤ R.cells) (hl : slots + cap ≤ R.slots)
    (K : ∀ T' h' b kc, b = h.size → Wk nw EL Z a0 own bytes maxL ret nm p l e R s m args below meth c T' h' S (cells + 1) (slots + cap) → Keep h h' [] → Arv Z h' b kc (.object C) z [] .null → Ovr Z kc C → Go p e below P (T'.setTop (mkF m pc' Ls (.ref b :: st)))) : Go p e below P (T.setTop (mkF m pc Ls (.int z :: st))) := by
  have w' := w
  obtain ⟨⟨locs, X, N⟩, eT, hZ, hown, ⟨k0, hS, hk⟩, hC, hSf, hnw, hEL, ⟨hx, hby, hml, hret, hnm, hlk⟩, hn0⟩ := w
  subst hp
  obtain ⟨T', h', cA, X', e', E', A', O', st'⟩ := newR (Z := Z) (s := s.setVm T.vm) X hx hZ hown wl wa eT (g := mkF m pc Ls (.int z :: st)) rfl (hb hby hd) rfl hz hcap hb8 hc hl
  exact (K T' h' _ cA rfl (w'.next X' N e' (keepExt E') noSafe) (keepExt E') (Arv.new A' hz) O').st st'
theorem wStC (w : Wk nw EL Z a0 own bytes maxL ret nm p l e R s m args below meth c T h S cells slots) {a : Addr} {kc : ClassId} {z j x : Int32} {vs : List Value} {d : Value} (A : Arv Z h a kc .char z vs d) (hj : ¬ j < 0 ∧ j < z) (i : Nat) (hi : j.toNatClampNeg = i) (hl : i < vs.length) (hn0' : Z.heap.size ≤ a) (hsf : Safe Z EL T.vm h a) (hd : decode bytes pc = .ok (.castore, 1)) (hp : pc + 1 = pc')
    (K : ∀ T' h', Wk nw EL Z a0 own bytes maxL ret nm p l e R s m args below meth c T' h' S cells slots → Keep h h' [a] → Arv Z h' a kc .char z (vs.set i (.int (nar .char x))) d → Go p e below P (T'.setTop (mkF m pc' Ls st))) : Go p e below P (T.setTop (mkF m pc Ls (.int x :: .int j :: .ref a :: st))) := by
  have w' := w
  obtain ⟨⟨locs, X, N⟩, eT, hZ, hown, ⟨k0, hS, hk⟩, hC, hSf, hnw, hEL, ⟨hx, hby, hml, hret, hnm, hlk⟩, hn0⟩ := w
  subst hp
  obtain ⟨cl, Ar, q, Sz, Nn, H, Gf⟩ := A
  obtain ⟨T', h', X', e', W', st'⟩ := stC (Z := Z) (s := s.setVm T.vm) X hx hZ eT Ar (j := j) (inb_of Sz hj) (g := mkF m pc Ls (.int x :: .int j :: .ref a :: st)) rfl rfl (hb hby hd)
  exact (K T' h' (w'.next X' (Fr.snoc X' N hn0') e' (Keep.of_wr W') (oneSafe hn0' hsf)) (Keep.of_wr W') (Arv.set Ar q Sz Nn H Gf (fits_nar_char _) W' i hi hl)).st st'
theorem wStB (w : Wk nw EL Z a0 own bytes maxL ret nm p l e R s m args below meth c T h S cells slots) {a : Addr} {kc : ClassId} {z j x : Int32} {vs : List Value} {d : Value} (A : Arv Z h a kc .byte z vs d) (hj : ¬ j < 0 ∧ j < z) (i : Nat) (hi : j.toNatClampNeg = i) (hl : i < vs.length) (hn0' : Z.heap.size ≤ a) (hsf : Safe Z EL T.vm h a) (hd : decode bytes pc = .ok (.bastore, 1)) (hp : pc + 1 = pc')
    (K : ∀ T' h', Wk nw EL Z a0 own bytes maxL ret nm p l e R s m args below meth c T' h' S cells slots → Keep h h' [a] → Arv Z h' a kc .byte z (vs.set i (.int (nar .byte x))) d → Go p e below P (T'.setTop (mkF m pc' Ls st))) : Go p e below P (T.setTop (mkF m pc Ls (.int x :: .int j :: .ref a :: st))) := by
  have w' := w
  obtain ⟨⟨locs, X, N⟩, eT, hZ, hown, ⟨k0, hS, hk⟩, hC, hSf, hnw, hEL, ⟨hx, hby, hml, hret, hnm, hlk⟩, hn0⟩ := w
  subst hp
  obtain ⟨cl, Ar, q, Sz, Nn, H, Gf⟩ := A
  obtain ⟨T', h', X', e', W', st'⟩ := stB (Z := Z) (s := s.setVm T.vm) X hx hZ eT Ar (j := j) (inb_of Sz hj) (g := mkF m pc Ls (.int x :: .int j :: .ref a :: st)) rfl rfl (hb hby hd)
  exact (K T' h' (w'.next X' (Fr.snoc X' N hn0') e' (Keep.of_wr W') (oneSafe hn0' hsf)) (Keep.of_wr W') (Arv.set Ar q Sz Nn H Gf (fits_nar_byte _) W' i hi hl)).st st'
theorem wStI (w : Wk nw EL Z a0 own bytes maxL ret nm p l e R s m args below meth c T h S cells slots) {a : Addr} {kc : ClassId} {z j x : Int32} {vs : List Value} {d : Value} (A : Arv Z h a kc .int z vs d) (hj : ¬ j < 0 ∧ j < z) (i : Nat) (hi : j.toNatClampNeg = i) (hl : i < vs.length) (hn0' : Z.heap.size ≤ a) (hsf : Safe Z EL T.vm h a) (hd : decode bytes pc = .ok (.iastore, 1)) (hp : pc + 1 = pc')
    (K : ∀ T' h', Wk nw EL Z a0 own bytes maxL ret nm p l e R s m args below meth c T' h' S cells slots → Keep h h' [a] → Arv Z h' a kc .int z (vs.set i (.int x)) d → Go p e below P (T'.setTop (mkF m pc' Ls st))) : Go p e below P (T.setTop (mkF m pc Ls (.int x :: .int j :: .ref a :: st))) := by
  have w' := w
  obtain ⟨⟨locs, X, N⟩, eT, hZ, hown, ⟨k0, hS, hk⟩, hC, hSf, hnw, hEL, ⟨hx, hby, hml, hret, hnm, hlk⟩, hn0⟩ := w
  subst hp
  obtain ⟨cl, Ar, q, Sz, Nn, H, Gf⟩ := A
  obtain ⟨T', h', X', e', W', st'⟩ := stI (Z := Z) (s := s.setVm T.vm) X hx hZ eT Ar (j := j) (inb_of Sz hj) (g := mkF m pc Ls (.int x :: .int j :: .ref a :: st)) rfl rfl (hb hby hd)
  exact (K T' h' (w'.next X' (Fr.snoc X' N hn0') e' (Keep.of_wr W') (oneSafe hn0' hsf)) (Keep.of_wr W') (Arv.set Ar q Sz Nn H Gf rfl W' i hi hl)).st st'
theorem wStR (w : Wk nw EL Z a0 own bytes maxL ret nm p l e R s m args below meth c T h S cells slots) {a : Addr} {kc : ClassId} {C : String} {z j : Int32} {v : Value} {vs : List Value} {d : Value} (A : Arv Z h a kc (.object C) z vs d) (hv : v = .null ∨ ∃ y, v = .ref y ∧ Ovr Z kc C ∧ Ins Z h y C true) (hj : ¬ j < 0 ∧ j < z) (i : Nat) (hi : j.toNatClampNeg = i) (hl : i < vs.length) (hn0' : Z.heap.size ≤ a) (hd : decode bytes pc = .ok (.aastore, 1)) (hp : pc + 1 = pc')
    (K : ∀ T' h', Wk nw EL Z a0 own bytes maxL ret nm p l e R s m args below meth c T' h' S cells slots → Keep h h' [a] → Arv Z h' a kc (.object C) z (vs.set i v) d → Go p e below P (T'.setTop (mkF m pc' Ls st))) : Go p e below P (T.setTop (mkF m pc Ls (v :: .int j :: .ref a :: st))) := by
  have hsf : Safe Z EL T.vm h a := w.safeArv A (by intro q; cases q)
  have w' := w
  obtain ⟨⟨locs, X, N⟩, eT, hZ, hown, ⟨k0, hS, hk⟩, hC, hSf, hnw, hEL, ⟨hx, hby, hml, hret, hnm, hlk⟩, hn0⟩ := w
  subst hp
  obtain ⟨cl, Ar, q, Sz, Nn, H, Gf⟩ := A
  have hst : Sto Z h a v := by
    rcases hv with rfl | ⟨y, rfl, O, I⟩
    · exact Or.inl rfl
    · exact Sto.ofV Ar q O I
  have hfv : fits (.object C) v = true := by
    rcases hv with rfl | ⟨y, rfl, -, -⟩ <;> rfl
  obtain ⟨T', h', X', e', W', st'⟩ := stR (Z := Z) (s := s.setVm T.vm) X hx hZ eT Ar (j := j) (inb_of Sz hj) rfl hst (g := mkF m pc Ls (v :: .int j :: .ref a :: st)) rfl rfl (hb hby hd)
  exact (K T' h' (w'.next X' (Fr.snoc X' N hn0') e' (Keep.of_wr W') (oneSafe hn0' hsf)) (Keep.of_wr W') (Arv.set Ar q Sz Nn H Gf hfv W' i hi hl)).st st'
theorem wLdC (w : Wk nw EL Z a0 own bytes maxL ret nm p l e R s m args below meth c T h S cells slots) {a : Addr} {kc : ClassId} {z j : Int32} {v : Value} {vs : List Value} {d : Value} (A : Arv Z h a kc .char z vs d) (hj : ¬ j < 0 ∧ j < z) (hv : vs.getD j.toNatClampNeg d = v) (hd : decode bytes pc = .ok (.caload, 1)) (hp : pc + 1 = pc')
    (K : Go p e below P (T.setTop (mkF m pc' Ls (v :: st)))) : Go p e below P (T.setTop (mkF m pc Ls (.int j :: .ref a :: st))) := by
  have w' := w
  obtain ⟨⟨locs, X, N⟩, eT, hZ, hown, ⟨k0, hS, hk⟩, hC, hSf, hnw, hEL, ⟨hx, hby, hml, hret, hnm, hlk⟩, hn0⟩ := w
  subst hp
  obtain ⟨cl, Ar, q, Sz, Nn, H, Gf⟩ := A
  have hin := inb_of Sz hj
  exact K.st fun t k => X.caload hx (j := j) (v := v) (by rw [eT]; exact Ar.1) (State.isArrayOf_alike hZ.alike Ar.2.1) Ar.2.2 hin (Has.at H hin hv) (g := mkF m pc Ls (.int j :: .ref a :: st)) rfl rfl (hb hby hd) t k
theorem wLdB (w : Wk nw EL Z a0 own bytes maxL ret nm p l e R s m args below meth c T h S cells slots) {a : Addr} {kc : ClassId} {z j : Int32} {v : Value} {vs : List Value} {d : Value} (A : Arv Z h a kc .byte z vs d) (hj : ¬ j < 0 ∧ j < z) (hv : vs.getD j.toNatClampNeg d = v) (hd : decode bytes pc = .ok (.baload, 1)) (hp : pc + 1 = pc')
    (K : Go p e below P (T.setTop (mkF m pc' Ls (v :: st)))) : Go p e below P (T.setTop (mkF m pc Ls (.int j :: .ref a :: st))) := by
  have w' := w
  obtain ⟨⟨locs, X, N⟩, eT, hZ, hown, ⟨k0, hS, hk⟩, hC, hSf, hnw, hEL, ⟨hx, hby, hml, hret, hnm, hlk⟩, hn0⟩ := w
  subst hp
  obtain ⟨cl, Ar, q, Sz, Nn, H, Gf⟩ := A
  have hin := inb_of Sz hj
  exact K.st fun t k => X.baloadBytes hx (j := j) (v := v) (by rw [eT]; exact Ar.1) (State.isArrayOf_alike hZ.alike Ar.2.1) Ar.2.2 hin (Has.at H hin hv) (g := mkF m pc Ls (.int j :: .ref a :: st)) rfl rfl (hb hby hd) t k
theorem wLdI (w : Wk nw EL Z a0 own bytes maxL ret nm p l e R s m args below meth c T h S cells slots) {a : Addr} {kc : ClassId} {z j : Int32} {v : Value} {vs : List Value} {d : Value} (A : Arv Z h a kc .int z vs d) (hj : ¬ j < 0 ∧ j < z) (hv : vs.getD j.toNatClampNeg d = v) (hd : decode bytes pc = .ok (.iaload, 1)) (hp : pc + 1 = pc')
    (K : Go p e below P (T.setTop (mkF m pc' Ls (v :: st)))) : Go p e below P (T.setTop (mkF m pc Ls (.int j :: .ref a :: st))) := by
  have w' := w
  obtain ⟨⟨locs, X, N⟩, eT, hZ, hown, ⟨k0, hS, hk⟩, hC, hSf, hnw, hEL, ⟨hx, hby, hml, hret, hnm, hlk⟩, hn0⟩ := w
  subst hp
  obtain ⟨cl, Ar, q, Sz, Nn, H, Gf⟩ := A
  have hin := inb_of Sz hj
  exact K.st fun t k => X.iaload hx (j := j) (v := v) (by rw [eT]; exact Ar.1) (State.isArrayOf_alike hZ.alike Ar.2.1) Ar.2.2 hin (Has.at H hin hv) (g := mkF m pc Ls (.int j :: .ref a :: st)) rfl rfl (hb hby hd) t k
theorem wLdA (w : Wk nw EL Z a0 own bytes maxL ret nm p l e R s m args below meth c T h S cells slots) {a : Addr} {kc : ClassId} {C : String} {z j : Int32} {v : Value} {vs : List Value} {d : Value} (A : Arv Z h a kc (.object C) z vs d) (hj : ¬ j < 0 ∧ j < z) (hv : vs.getD j.toNatClampNeg d = v) (hd : decode bytes pc = .ok (.aaload, 1)) (hp : pc + 1 = pc')
    (K : Go p e below P (T.setTop (mkF m pc' Ls (v :: st)))) : Go p e below P (T.setTop (mkF m pc Ls (.int j :: .ref a :: st))) := by
  have w' := w
  obtain ⟨⟨locs, X, N⟩, eT, hZ, hown, ⟨k0, hS, hk⟩, hC, hSf, hnw, hEL, ⟨hx, hby, hml, hret, hnm, hlk⟩, hn0⟩ := w
  subst hp
  obtain ⟨cl, Ar, q, Sz, Nn, H, Gf⟩ := A
  have hin := inb_of Sz hj
  exact K.st fun t k => X.aaload hx (j := j) (v := v) (by rw [eT]; exact Ar.1) (State.isArrayOf_alike hZ.alike Ar.2.1) rfl Ar.2.2 hin (Has.at H hin hv) (g := mkF m pc Ls (.int j :: .ref a :: st)) rfl rfl (hb hby hd) t k
theorem wLen (w : Wk nw EL Z a0 own bytes maxL ret nm p l e R s m args below meth c T h S cells slots) {a : Addr} {kc : ClassId} {ty : FieldType} {z : Int32} {vs : List Value} {d : Value} (A : Arv Z h a kc ty z vs d) (hd : decode bytes pc = .ok (.arraylength, 1)) (hp : pc + 1 = pc')
    (K : Go p e below P (T.setTop (mkF m pc' Ls (.int z :: st)))) : Go p e below P (T.setTop (mkF m pc Ls (.ref a :: st))) := by
  have w' := w
  obtain ⟨⟨locs, X, N⟩, eT, hZ, hown, ⟨k0, hS, hk⟩, hC, hSf, hnw, hEL, ⟨hx, hby, hml, hret, hnm, hlk⟩, hn0⟩ := w
  subst hp
  obtain ⟨cl, Ar, q, Sz, Nn, H, Gf⟩ := A
  rw [← len_of Sz Nn] at K
  exact K.st fun t k => X.arraylength hx (by rw [eT]; exact Ar.1) (State.isArrayOf_alike hZ.alike Ar.2.1) (g := mkF m pc Ls (.ref a :: st)) rfl rfl (hb hby hd) t k
theorem wCastY (w : Wk nw EL Z a0 own bytes maxL ret nm p l e R s m args below meth c T h S cells slots) {index : Nat} {C : String} (wl : (Jvm.Cond.classLink own index C).before a0 Z = true) {a : Addr} (F : Ins Z h a C true) (hd : decode bytes pc = .ok (.checkcast index, 3)) (hp : pc + 3 = pc')
    (K : ∀ T', Wk nw EL Z a0 own bytes maxL ret nm p l e R s m args below meth c T' h S cells slots → Go p e below P (T'.setTop (mkF m pc' Ls (.ref a :: st)))) : Go p e below P (T.setTop (mkF m pc Ls (.ref a :: st))) := by
  have w' := w
  obtain ⟨⟨locs, X, N⟩, eT, hZ, hown, ⟨k0, hS, hk⟩, hC, hSf, hnw, hEL, ⟨hx, hby, hml, hret, hnm, hlk⟩, hn0⟩ := w
  subst hp
  obtain ⟨T', X', e', st'⟩ := castY (Z := Z) (s := s.setVm T.vm) X hx hZ hown wl eT F (g := mkF m pc Ls (.ref a :: st)) rfl rfl (hb hby hd)
  exact (K T' (w'.next X' N e' (Keep.refl h []) noSafe)).st st'
theorem wInstY (w : Wk nw EL Z a0 own bytes maxL ret nm p l e R s m args below meth c T h S cells slots) {index : Nat} {C : String} (wl : (Jvm.Cond.classLink own index C).before a0 Z = true) {a : Addr} (F : Ins Z h a C true) (hd : decode bytes pc = .ok (.instanceof index, 3)) (hp : pc + 3 = pc')
    (K : ∀ T', Wk nw EL Z a0 own bytes maxL ret nm p l e R s m args below meth c T' h S cells slots → Go p e below P (T'.setTop (mkF m pc' Ls (.int 1 :: st)))) : Go p e below P (T.setTop (mkF m pc Ls (.ref a :: st))) := by
  have w' := w
  obtain ⟨⟨locs, X, N⟩, eT, hZ, hown, ⟨k0, hS, hk⟩, hC, hSf, hnw, hEL, ⟨hx, hby, hml, hret, hnm, hlk⟩, hn0⟩ := w
  subst hp
  obtain ⟨T', X', e', st'⟩ := instY (Z := Z) (s := s.setVm T.vm) X hx hZ hown wl eT F (g := mkF m pc Ls (.ref a :: st)) rfl rfl (hb hby hd)
  exact (K T' (w'.next X' N e' (Keep.refl h []) noSafe)).st st'
theorem gLdcI (w : Wk nw EL Z a0 own bytes maxL ret nm p l e R s m args below meth c T h S cells slots) {index : Nat} {v : Int32} (wl : (Jvm.Cond.constant own index v).before a0 Z = true) (hd : decode bytes pc = .ok (.ldc index, 2)) (hp : pc + 2 = pc')
    (K : Go p e below P (T.setTop (mkF m pc' Ls (.int v :: st)))) : Go p e below P (T.setTop (mkF m pc Ls st)) := by
  have w' := w
  obtain ⟨⟨locs, X, N⟩, eT, hZ, hown, ⟨k0, hS, hk⟩, hC, hSf, hnw, hEL, ⟨hx, hby, hml, hret, hnm, hlk⟩, hn0⟩ := w
  subst hp
  exact K.st fun t k => X.ldcI hx hown (mv (s := s.setVm T.vm) hZ wl) (g := mkF m pc Ls st) rfl (hb hby hd) k
theorem gLdc2L (w : Wk nw EL Z a0 own bytes maxL ret nm p l e R s m args below meth c T h S cells slots) {index : Nat} {v : Int64} (wl : (Jvm.Cond.constantLong own index v).before a0 Z = true) (hd : decode bytes pc = .ok (.ldc2_w index, 3)) (hp : pc + 3 = pc')
    (K : Go p e below P (T.setTop (mkF m pc' Ls (.long v :: st)))) : Go p e below P (T.setTop (mkF m pc Ls st)) := by
  have w' := w
  obtain ⟨⟨locs, X, N⟩, eT, hZ, hown, ⟨k0, hS, hk⟩, hC, hSf, hnw, hEL, ⟨hx, hby, hml, hret, hnm, hlk⟩, hn0⟩ := w
  subst hp
  exact K.st fun t k => X.ldc2J hx hown (mv (s := s.setVm T.vm) hZ wl) (g := mkF m pc Ls st) rfl (hb hby hd) k
theorem gLconst (w : Wk nw EL Z a0 own bytes maxL ret nm p l e R s m args below meth c T h S cells slots) {k : Fin 2} {z : Int64} (hd : decode bytes pc = .ok (.lconst k, 1)) (hp : pc + 1 = pc') (hz : Int64.ofNat k = z)
    (K : Go p e below P (T.setTop (mkF m pc' Ls (.long z :: st)))) : Go p e below P (T.setTop (mkF m pc Ls st)) := by
  subst hp hz; exact K.st fun t q => XT.lconst w.at w.ex rfl (hb w.by hd) q
theorem lenStart {t : Term} {x : Addr} {cl : Cell} {z : Int32} (ht : t.eval args Z none [] Z = some (.ref x)) (ha : Z.arrayAt? x = some cl) (h : (Jvm.Cond.eq (.length t) (.int z)).value args Z none Z [] = some true) : cl.slots.size < 2 ^ 31 ∧ cl.slots.size.toInt32 = z := by
  by_cases hs : cl.slots.size < 2 ^ 31
  · have e := len_f (first := Z) (o := none) (idx := []) ht ha hs
    exact ⟨hs, gotT (Cond.eq_ints e (Term.int_eval z)) h⟩
  · exfalso
    have e : (Term.length t).eval args Z none [] Z = none := by simp [Term.eval, ht, ha, hs]
    simp [Cond.value, e] at h
theorem wInstNull (w : Wk nw EL Z a0 own bytes maxL ret nm p l e R s m args below meth c T h S cells slots) {index : Nat} (hd : decode bytes pc = .ok (.instanceof index, 3)) (hp : pc + 3 = pc')
    (K : Go p e below P (T.setTop (mkF m pc' Ls (.int 0 :: st)))) : Go p e below P (T.setTop (mkF m pc Ls (.null :: st))) := by
  have w' := w
  obtain ⟨⟨locs, X, N⟩, eT, hZ, hown, ⟨k0, hS, hk⟩, hC, hSf, hnw, hEL, ⟨hx, hby, hml, hret, hnm, hlk⟩, hn0⟩ := w
  subst hp
  exact K.st fun t k => X.instanceofNull hx (g := mkF m pc Ls (.null :: st)) rfl rfl (hb hby hd) t k
theorem wLdcO (w : Wk false EL Z a0 own bytes maxL ret nm p l e R s m args below meth c T h S cells slots) {index : Nat} {text : String} (wl : (Jvm.Cond.stringLink own index text).before a0 Z = true) (wS : ∀ a ∈ Bundle.stringAtoms, a.before a0 Z = true) {n : Nat} (hn : 4 * text.toList.length ≤ n) (hbig : n ≤ 536870912) (hd : decode bytes pc = .ok (.ldc index, 2)) (hp : pc + 2 = pc') (hc : cells + 2 ≤ R.cells) (hl : slots + (n + 4) ≤ R.slots)
    (K : ∀ T' h' a, Wk false EL Z a0 own bytes maxL ret nm p l e R s m args below meth c T' h' S (cells + 2) (slots + (n + 4)) → Keep h h' [] → Go p e below P (T'.setTop (mkF m pc' Ls (.ref a :: st)))) : Go p e below P (T.setTop (mkF m pc Ls st)) := by
  have w' := w
  obtain ⟨⟨locs, X, N⟩, eT, hZ, hown, ⟨k0, hS, hk⟩, hC, hSf, hnw, hEL, ⟨hx, hby, hml, hret, hnm, hlk⟩, hn0⟩ := w
  subst hp
  obtain ⟨a, T', h', k1, X', e', E', hS', hk', hZ', hown', hC', -, st'⟩ := ldcOH X hx hZ hown wl wS eT hS hk hEL hC.1 (g := mkF m pc Ls st) rfl (hb hby hd) hn hbig hc hl
  exact (K T' h' a ⟨⟨locs, X', N⟩, e', hZ', hown', ⟨k1, hS', hk'⟩, hC.trans hC', fun x hx => ⟨Nat.lt_of_lt_of_le (hSf x hx).1 E'.1, hC'.safe (hSf x hx).1 (hSf x hx).2⟩, (fun q => by cases q), hEL, ⟨hx, hby, hml, hret, hnm, hlk⟩, ⟨Nat.le_trans hn0.1 E'.1, fun a c q => E'.2 a c (hn0.2 a c q)⟩⟩ (keepExt E')).st st'
theorem wLdcC (w : Wk false EL Z a0 own bytes maxL ret nm p l e R s m args below meth c T h S cells slots) {index : Nat} {text : String} (wl : (Jvm.Cond.stringLink own index text).before a0 Z = true) (wS : ∀ a ∈ Bundle.stringAtoms, a.before a0 Z = true) (hmem : (own, index) ∈ EL) {vs : List Value} {z : Int32} (ht : (∀ c ∈ text.toList, c.toNat < 256) ∧ text.toList.map (fun c => Value.int (Jvm.Lit.byteI c.toNat.toUInt16)) = vs) (hz : ¬ z < 0) (hlz : z.toNatClampNeg = vs.length)
    {n : Nat} (hn : 4 * text.toList.length ≤ n) (hbig : n ≤ 536870912) (hd : decode bytes pc = .ok (.ldc index, 2)) (hp : pc + 2 = pc') (hc : cells + 2 ≤ R.cells) (hl : slots + (n + 4) ≤ R.slots)
    (K : ∀ T' h' a b k, Wk false EL Z a0 own bytes maxL ret nm p l e R s m args below meth c T' h' S (cells + 2) (slots + (n + 4)) → Keep h h' [] → Exa Z h' a "java/lang/String" → Fld Z h' a "java/lang/String" "coder" "B" (.int 0) → Fld Z h' a "java/lang/String" "value" "[B" (.ref b) → Arv Z h' b k .byte z vs (.int 0) → (∀ x ∈ S, x ≠ a ∧ x ≠ b) → Go p e below P (T'.setTop (mkF m pc' Ls (.ref a :: st)))) : Go p e below P (T.setTop (mkF m pc Ls st)) := by
  have w' := w
  obtain ⟨⟨locs, X, N⟩, eT, hZ, hown, ⟨k0, hS, hk⟩, hC, hSf, hnw, hEL, ⟨hx, hby, hml, hret, hnm, hlk⟩, hn0⟩ := w
  subst hp
  obtain ⟨a, T', h', k1, b, k, X', e', E', hS', hk', hZ', hown', f1, f2, f3, f4, -, -, hC', -, hne, st'⟩ := ldcCH X hx hZ hown wl wS eT hS hk hEL hmem hC.1 ht hz hlz (g := mkF m pc Ls st) rfl (hb hby hd) hn hbig hc hl
  exact (K T' h' a b k ⟨⟨locs, X', N⟩, e', hZ', hown', ⟨k1, hS', hk'⟩, hC.trans hC', fun x hx => ⟨Nat.lt_of_lt_of_le (hSf x hx).1 E'.1, hC'.safe (hSf x hx).1 (hSf x hx).2⟩, (fun q => by cases q), hEL, ⟨hx, hby, hml, hret, hnm, hlk⟩, ⟨Nat.le_trans hn0.1 E'.1, fun a c q => E'.2 a c (hn0.2 a c q)⟩⟩ (keepExt E') f1 f2 f3 f4 (fun x hx => hne x (hC'.safe (hSf x hx).1 (hSf x hx).2))).st st'
theorem ctrBack {y : MethodName} {bytes' : ByteArray} {maxL' : Nat} {ret' : Option FieldType} {rm : Room} {len W : Nat} {as' : Array Value} {S' : List Addr} {nw' : Bool} {vm0 : Vm} {Q : Option Value → Heap → (Addr → Prop) → Prop} (hM : Ctr nw' EL Z l y bytes' maxL' ret' rm as' h S' Q)
    (hZ : Z.Warmed39 vm0) (wc : (Jvm.Cond.code y bytes' maxL' ret').before a0 Z = true) (wz : (Jvm.Cond.initialized y.cls).before a0 Z = true) (hf : rm.frames + 1 ≤ R.frames) (hl : W + (maxL' + 11) + rm.locals ≤ R.locals) (hEL : EW Z a0 EL) (H : CHv Z EL vm0 h) (hSf : ∀ x ∈ S', x < h.size ∧ Safe Z EL vm0 h x) :
    BackS l R p e below (s.setVm vm0) args y len W (fun A a => a = as' ∧ A.U.heap = h ∧ A.cells + rm.cells ≤ R.cells ∧ A.slots + rm.slots ≤ R.slots)
      (fun A _ v B => ∃ L, Q v B.U.heap (fun x => x < B.U.heap.size ∧ Safe Z EL B.U.vm B.U.heap x) ∧ Fr Z.heap.size L ∧ Ext Z.heap B.U.heap ∧ B.locs = A.locs ++ L ∧ B.cells = A.cells + rm.cells ∧ B.slots = A.slots + rm.slots ∧ CHr Z EL vm0 h B.U.vm B.U.heap ∧ (nw' = true → A.U.WarmedH B.U.vm)) :=
  BackS.of_freeW (bytes := bytes') (maxL := maxL') (ret := ret') (E := fun _ first o t L k n => k = rm.cells ∧ n = rm.slots ∧ (∃ v, o = .returned v ∧ Q v t.heap (fun x => x < t.heap.size ∧ Safe Z EL t.vm t.heap x)) ∧ Fr Z.heap.size L ∧ Ext Z.heap t.heap ∧ CHr Z EL first.vm first.heap t.vm t.heap ∧ (nw' = true → first.WarmedH t.vm)) (hM []) hf hl
    (fun m meth c A a Y hp => have hU : Z.Warmed39 A.U.vm := wtrans (s := s.setVm vm0) hZ Y.warmed
      ⟨by show (Jvm.Cond.and _ .tt).before a A.U = true; rw [Cond.before_and, mv hU wc]; rfl, mv hU wc, mv hU wz, hp.2.2.1, hp.2.2.2⟩)
    (fun m meth c A a g mk Y hp => have C := CHv.at Y hZ hEL H
      ⟨hp.1, wtrans (s := s.setVm vm0) hZ Y.warmed, hp.2.1, C.1, fun x hx => ⟨(hSf x hx).1, C.safe (hSf x hx).1 (hSf x hx).2⟩⟩) (fun _ _ _ _ _ _ _ _ _ => trivial)
    (fun _ _ _ _ ⟨v, L, h1, h2, h3, h3', h4, h5⟩ => ⟨L, _, _, h5.1, rfl, rfl, ⟨v, h1, h2⟩, h3, h3', h4, h5.2⟩)
    (fun m meth c A a g mk v t L k n Y hp _ _ ⟨e1, e2, ⟨v', e3, e4⟩, e5, e5', e6, e7⟩ => by
      cases e3; subst e1 e2
      refine ⟨L, e4, e5, e5', rfl, rfl, rfl, (CHv.at Y hZ hEL H).trans ?_, e7⟩
      rw [← hp.2.1]; exact e6)
theorem wCallS (w : Wk nw EL Z a0 own bytes maxL ret nm p l e R s m args below meth c T h S cells slots) {y : MethodName} {bytes' : ByteArray} {maxL' : Nat} {ret' : Option FieldType} {rm : Room} {as' : Array Value} {S' : List Addr} {nw' : Bool} {Q : Option Value → Heap → (Addr → Prop) → Prop} (hM : Ctr nw' EL Z l y bytes' maxL' ret' rm as' h S' Q) (hnw' : nw = true → nw' = true) (hsub : ∀ x ∈ S', x ∈ S) {index : Nat} (w1 : (Jvm.Cond.methodLink own index y).before a0 Z = true) (w2 : (Jvm.Cond.static y).before a0 Z = true) (w3 : (Jvm.Cond.initialized y.cls).before a0 Z = true) (w4 : (Jvm.Cond.code y bytes' maxL' ret').before a0 Z = true) (hy : y.cls ≠ "java/lang/invoke/MethodHandle" ∧ y.cls ≠ "java/lang/invoke/VarHandle")
    (argsL rest : List Value) {ps : List FieldType} {rt : Option FieldType} (hps : parseMethodDescriptor y.desc = some ⟨ps, rt⟩) (hlen : argsL.length = ps.length) (has : argsL.toArray = as') (hstk : st = argsL.reverse ++ rest) (hsz : Ls.size = maxL) {WW : Nat} (hW : (rest.map fun v => v.category).sum ≤ WW) (hf : rm.frames + 1 ≤ R.frames) (hl : WW + (maxL' + 11) + rm.locals ≤ R.locals) (hc : cells + rm.cells ≤ R.cells) (hs : slots + rm.slots ≤ R.slots)
    (hd : decode bytes pc = .ok (.invokestatic index, 3)) (hp : pc + 3 = pc')
    (K : ∀ v T' h', Wk nw EL Z a0 own bytes maxL ret nm p l e R s m args below meth c T' h' S (cells + rm.cells) (slots + rm.slots) → Q v h' (fun x => x < h'.size ∧ Safe Z EL T'.vm h' x) → Go p e below P (T'.setTop (mkF m pc' Ls (v.toList ++ rest)))) : Go p e below P (T.setTop (mkF m pc Ls st)) := by
  have w' := w
  obtain ⟨⟨locs, X, N⟩, eT, hZ, hown, ⟨k0, hS, hk⟩, hC, hSf, hnw, hEL, ⟨hx, hby, hml, hret, hnm, hlk⟩, hn0⟩ := w
  subst hp
  subst hstk has
  have hZ' : Z.Warmed39 (s.setVm T.vm).vm := hZ
  obtain ⟨v, vm₁, ⟨T', Lc, kc, nc⟩, hW₁, X', hS', hgr, hpost, hst⟩ := callSS (s := s.setVm T.vm) X hx hown (mvT hZ' w1) (mvT hZ' w2) (mvT hZ' w3) (mvT hZ' w4) hy (ctrBack (a0 := a0) hM hZ w4 w3 hf hl hEL hC.1 (fun x hx => hSf x (hsub x hx)))
    (g := mkF m pc Ls (argsL.reverse ++ rest)) rfl (hsz.trans hml.symm) (argsL := argsL) (rest := rest) (lenOf hps hlen) rfl (by show 2 * 0 + _ ≤ _; omega) (hb hby hd) (fun _ _ => ⟨rfl, eT, hc, hs⟩)
  dsimp only [Pt.U, Pt.locs, Pt.cells, Pt.slots] at X' hS' hgr hpost hst
  obtain ⟨L, hQ, hFr, hEx, hL, hce, hsl, hCr, hWn⟩ := hpost
  subst hL hce hsl
  refine (K v T' T'.heap ?_ hQ).st fun t k => hst.trans k
  exact ⟨⟨_, X', Fr.app N hFr⟩, rfl, State.Warmed39.trans (t := s.setVm T.vm) hZ hS'.1, (hS'.1.alike.findClass _ _).trans hown, ⟨_, hS.trans hS' (Nat.le_trans hk (eT ▸ hgr)), Nat.le_refl _⟩, hC.trans hCr, fun x hx => ⟨Nat.lt_of_lt_of_le (hSf x hx).1 (eT ▸ hgr), hCr.safe (hSf x hx).1 (hSf x hx).2⟩,
    fun q => State.WarmedH.trans (hnw q) (State.WarmedH.trans (s := s.setVm T.vm) (t := T.setVm vm₁) hW₁ (hWn (hnw' q))), hEL, ⟨hx, hby, hml, hret, hnm, hlk⟩, hEx⟩
theorem wCallX (w : Wk nw EL Z a0 own bytes maxL ret nm p l e R s m args below meth c T h S cells slots) {y : MethodName} {bytes' : ByteArray} {maxL' : Nat} {ret' : Option FieldType} {rm : Room} {as' : Array Value} {S' : List Addr} {nw' : Bool} {Q : Option Value → Heap → (Addr → Prop) → Prop} (hM : Ctr nw' EL Z l y bytes' maxL' ret' rm as' h S' Q) (hnw' : nw = true → nw' = true) (hsub : ∀ x ∈ S', x ∈ S) {index : Nat} (hy1 : y.name = "<init>") (hr1 : ret' = none) (w1 : (Jvm.Cond.methodLink own index y).before a0 Z = true) (w2 : (Jvm.Cond.instanceMethod y).before a0 Z = true) (w3 : (Jvm.Cond.initialized y.cls).before a0 Z = true) (w4 : (Jvm.Cond.code y bytes' maxL' ret').before a0 Z = true) (hy : y.cls ≠ "java/lang/invoke/MethodHandle" ∧ y.cls ≠ "java/lang/invoke/VarHandle")
    {a : Addr} (argsL rest : List Value) {ps : List FieldType} {rt : Option FieldType} (hps : parseMethodDescriptor y.desc = some ⟨ps, rt⟩) (hlen : argsL.length = ps.length) (has : (.ref a :: argsL).toArray = as') (hstk : st = argsL.reverse ++ .ref a :: rest) (hsz : Ls.size = maxL) {WW : Nat} (hW : (rest.map fun v => v.category).sum ≤ WW) (hf : rm.frames + 1 ≤ R.frames) (hl : WW + (maxL' + 11) + rm.locals ≤ R.locals) (hc : cells + rm.cells ≤ R.cells) (hs : slots + rm.slots ≤ R.slots)
    (hd : decode bytes pc = .ok (.invokespecial index, 3)) (hp : pc + 3 = pc')
    (K : ∀ v T' h', Wk nw EL Z a0 own bytes maxL ret nm p l e R s m args below meth c T' h' S (cells + rm.cells) (slots + rm.slots) → Q v h' (fun x => x < h'.size ∧ Safe Z EL T'.vm h' x) → Go p e below P (T'.setTop (mkF m pc' Ls (v.toList ++ rest)))) : Go p e below P (T.setTop (mkF m pc Ls st)) := by
  have w' := w
  obtain ⟨⟨locs, X, N⟩, eT, hZ, hown, ⟨k0, hS, hk⟩, hC, hSf, hnw, hEL, ⟨hx, hby, hml, hret, hnm, hlk⟩, hn0⟩ := w
  subst hp
  subst hstk has hr1
  have hZ' : Z.Warmed39 (s.setVm T.vm).vm := hZ
  obtain ⟨v, vm₁, ⟨T', Lc, kc, nc⟩, hW₁, X', hS', hgr, hpost, hst⟩ := X.specialBackS (s := s.setVm T.vm) hx (y := y) hy1 hown (mvT hZ' w1) (mvT hZ' w2) (mvT hZ' w4) hy (ctrBack (a0 := a0) hM hZ w4 w3 hf hl hEL hC.1 (fun x hx => hSf x (hsub x hx)))
    (g := mkF m pc Ls (argsL.reverse ++ .ref a :: rest)) rfl (hsz.trans hml.symm) (Steps.refl _) (a := a) (argsL := argsL) (rest := rest) (lenOf hps hlen) rfl (by show 2 * 0 + _ ≤ _; omega) (hb hby hd) (fun _ _ => ⟨rfl, eT, hc, hs⟩)
  dsimp only [Pt.U, Pt.locs, Pt.cells, Pt.slots] at X' hS' hgr hpost hst
  obtain ⟨L, hQ, hFr, hEx, hL, hce, hsl, hCr, hWn⟩ := hpost
  subst hL hce hsl
  refine (K v T' T'.heap ?_ hQ).st fun t k => hst.trans k
  exact ⟨⟨_, X', Fr.app N hFr⟩, rfl, State.Warmed39.trans (t := s.setVm T.vm) hZ hS'.1, (hS'.1.alike.findClass _ _).trans hown, ⟨_, hS.trans hS' (Nat.le_trans hk (eT ▸ hgr)), Nat.le_refl _⟩, hC.trans hCr, fun x hx => ⟨Nat.lt_of_lt_of_le (hSf x hx).1 (eT ▸ hgr), hCr.safe (hSf x hx).1 (hSf x hx).2⟩,
    fun q => State.WarmedH.trans (hnw q) (State.WarmedH.trans (s := s.setVm T.vm) (t := T.setVm vm₁) hW₁ (hWn (hnw' q))), hEL, ⟨hx, hby, hml, hret, hnm, hlk⟩, hEx⟩
theorem wCallV (w : Wk nw EL Z a0 own bytes maxL ret nm p l e R s m args below meth c T h S cells slots) {y0 y : MethodName} {bytes' : ByteArray} {maxL' : Nat} {ret' : Option FieldType} {rm : Room} {as' : Array Value} {S' : List Addr} {nw' : Bool} {Q : Option Value → Heap → (Addr → Prop) → Prop} (hM : Ctr nw' EL Z l y bytes' maxL' ret' rm as' h S' Q) (hnw' : nw = true → nw' = true) (hsub : ∀ x ∈ S', x ∈ S) {index : Nat} {C : String} {a : Addr} (E : Exa Z h a C) (w1 : (Jvm.Cond.methodLink own index y0).before a0 Z = true) (w2 : (Jvm.Cond.declares y0).before a0 Z = true) (w5 : (Jvm.Cond.selects C y0 y).before a0 Z = true) (w6 : (Jvm.Cond.instanceMethod y).before a0 Z = true) (w3 : (Jvm.Cond.initialized y.cls).before a0 Z = true) (w4 : (Jvm.Cond.code y bytes' maxL' ret').before a0 Z = true) (nf : ∀ s', Z.Warmed39 s'.vm → NotFace s' y0) (hy : y0.cls ≠ "java/lang/invoke/MethodHandle" ∧ y0.cls ≠ "java/lang/invoke/VarHandle")
    (argsL rest : List Value) {ps : List FieldType} {rt : Option FieldType} (hps : parseMethodDescriptor y0.desc = some ⟨ps, rt⟩) (hlen : argsL.length = ps.length) (has : (.ref a :: argsL).toArray = as') (hstk : st = argsL.reverse ++ .ref a :: rest) (hsz : Ls.size = maxL) {WW : Nat} (hW : (rest.map fun v => v.category).sum ≤ WW) (hf : rm.frames + 1 ≤ R.frames) (hl : WW + (maxL' + 11) + rm.locals ≤ R.locals) (hc : cells + rm.cells ≤ R.cells) (hs : slots + rm.slots ≤ R.slots)
    (hd : decode bytes pc = .ok (.invokevirtual index, 3)) (hp : pc + 3 = pc')
    (K : ∀ v T' h', Wk nw EL Z a0 own bytes maxL ret nm p l e R s m args below meth c T' h' S (cells + rm.cells) (slots + rm.slots) → Q v h' (fun x => x < h'.size ∧ Safe Z EL T'.vm h' x) → Go p e below P (T'.setTop (mkF m pc' Ls (v.toList ++ rest)))) : Go p e below P (T.setTop (mkF m pc Ls st)) := by
  have w' := w
  obtain ⟨⟨locs, X, N⟩, eT, hZ, hown, ⟨k0, hS, hk⟩, hC, hSf, hnw, hEL, ⟨hx, hby, hml, hret, hnm, hlk⟩, hn0⟩ := w
  subst hp
  subst hstk has
  have hZ' : Z.Warmed39 (s.setVm T.vm).vm := hZ
  obtain ⟨cq, kq, qa, qb, qc⟩ := isOf (s := s.setVm T.vm) hZ' eT E
  obtain ⟨v, vm₁, ⟨T', Lc, kc, nc⟩, hW₁, X', hS', hgr, hpost, hst⟩ := X.virtualBackS (s := s.setVm T.vm) hx (y := y0) (z := y) hown (mvT hZ' w1) (mvT hZ' w2) (nf _ hZ') (mvT hZ' w5) (mvT hZ' w6) hy (ctrBack (a0 := a0) hM hZ w4 w3 hf hl hEL hC.1 (fun x hx => hSf x (hsub x hx))) qa qc
    (g := mkF m pc Ls (argsL.reverse ++ .ref a :: rest)) rfl (hsz.trans hml.symm) (Steps.refl _) (argsL := argsL) (rest := rest) (lenOf hps hlen) rfl (by show 2 * 0 + _ ≤ _; omega) (hb hby hd) (fun _ _ => ⟨rfl, eT, hc, hs⟩)
  dsimp only [Pt.U, Pt.locs, Pt.cells, Pt.slots] at X' hS' hgr hpost hst
  obtain ⟨L, hQ, hFr, hEx, hL, hce, hsl, hCr, hWn⟩ := hpost
  subst hL hce hsl
  refine (K v T' T'.heap ?_ hQ).st fun t k => hst.trans k
  exact ⟨⟨_, X', Fr.app N hFr⟩, rfl, State.Warmed39.trans (t := s.setVm T.vm) hZ hS'.1, (hS'.1.alike.findClass _ _).trans hown, ⟨_, hS.trans hS' (Nat.le_trans hk (eT ▸ hgr)), Nat.le_refl _⟩, hC.trans hCr, fun x hx => ⟨Nat.lt_of_lt_of_le (hSf x hx).1 (eT ▸ hgr), hCr.safe (hSf x hx).1 (hSf x hx).2⟩,
    fun q => State.WarmedH.trans (hnw q) (State.WarmedH.trans (s := s.setVm T.vm) (t := T.setVm vm₁) hW₁ (hWn (hnw' q))), hEL, ⟨hx, hby, hml, hret, hnm, hlk⟩, hEx⟩
theorem nfSel {C : String} {y0 : MethodName} (w5 : (Jvm.Cond.selects C y0 y0).before a0 Z = true) : ∀ s', Z.Warmed39 s'.vm → NotFace s' y0 := fun s' hZ => notFace_of_selects (args := #[]) (mvT hZ w5)
theorem wCallI (w : Wk nw EL Z a0 own bytes maxL ret nm p l e R s m args below meth c T h S cells slots) {y0 y : MethodName} {bytes' : ByteArray} {maxL' : Nat} {ret' : Option FieldType} {rm : Room} {as' : Array Value} {S' : List Addr} {nw' : Bool} {Q : Option Value → Heap → (Addr → Prop) → Prop} (hM : Ctr nw' EL Z l y bytes' maxL' ret' rm as' h S' Q) (hnw' : nw = true → nw' = true) (hsub : ∀ x ∈ S', x ∈ S) {index count : Nat} {C : String} {a : Addr} (E : Exa Z h a C) (w1 : (Jvm.Cond.methodLink own index y0).before a0 Z = true) (w2 : (Jvm.Cond.declares y0).before a0 Z = true) (w7 : (Jvm.Cond.interfaceMethod y0.cls y0.cls y0.name y0.desc).before a0 Z = true) (w5 : (Jvm.Cond.selects C y0 y).before a0 Z = true) (w6 : (Jvm.Cond.instanceMethod y).before a0 Z = true) (w8 : (Jvm.Cond.publicMethod y).before a0 Z = true) (w9 : (Jvm.Cond.unhidden C y0.name y0.desc).before a0 Z = true) (w10 : (Jvm.Cond.castable C y0.cls).before a0 Z = true) (w3 : (Jvm.Cond.initialized y.cls).before a0 Z = true) (w4 : (Jvm.Cond.code y bytes' maxL' ret').before a0 Z = true) (hy : y0.cls ≠ "java/lang/invoke/MethodHandle" ∧ y0.cls ≠ "java/lang/invoke/VarHandle")
    (argsL rest : List Value) {ps : List FieldType} {rt : Option FieldType} (hps : parseMethodDescriptor y0.desc = some ⟨ps, rt⟩) (hlen : argsL.length = ps.length) (has : (.ref a :: argsL).toArray = as') (hstk : st = argsL.reverse ++ .ref a :: rest) (hsz : Ls.size = maxL) {WW : Nat} (hW : (rest.map fun v => v.category).sum ≤ WW) (hf : rm.frames + 1 ≤ R.frames) (hl : WW + (maxL' + 11) + rm.locals ≤ R.locals) (hc : cells + rm.cells ≤ R.cells) (hs : slots + rm.slots ≤ R.slots)
    (hd : decode bytes pc = .ok (.invokeinterface index count, 5)) (hp : pc + 5 = pc')
    (K : ∀ v T' h', Wk nw EL Z a0 own bytes maxL ret nm p l e R s m args below meth c T' h' S (cells + rm.cells) (slots + rm.slots) → Q v h' (fun x => x < h'.size ∧ Safe Z EL T'.vm h' x) → Go p e below P (T'.setTop (mkF m pc' Ls (v.toList ++ rest)))) : Go p e below P (T.setTop (mkF m pc Ls st)) := by
  have w' := w
  obtain ⟨⟨locs, X, N⟩, eT, hZ, hown, ⟨k0, hS, hk⟩, hC, hSf, hnw, hEL, ⟨hx, hby, hml, hret, hnm, hlk⟩, hn0⟩ := w
  subst hp
  subst hstk has
  have hZ' : Z.Warmed39 (s.setVm T.vm).vm := hZ
  obtain ⟨cq, kq, qa, qb, qc⟩ := isOf (s := s.setVm T.vm) hZ' eT E
  obtain ⟨v, vm₁, ⟨T', Lc, kc, nc⟩, hW₁, X', hS', hgr, hpost, hst⟩ := X.interfaceBackS (s := s.setVm T.vm) hx (xi := y0) (y := y) hown (mvT hZ' w1) (mvT hZ' w2) (mvT hZ' w7 (by first | rfl | simp [Cond.onTables, Cond.keepsFace, Cond.keeps, Cond.steady, Cond.faceAtom, hy.1, hy.2])) (mvT hZ' w5) (mvT hZ' w6) (mvT hZ' w8) (mvT hZ' w9) (mvT hZ' w10) hy (ctrBack (a0 := a0) hM hZ w4 w3 hf hl hEL hC.1 (fun x hx => hSf x (hsub x hx))) qa qb qc
    (g := mkF m pc Ls (argsL.reverse ++ .ref a :: rest)) rfl (hsz.trans hml.symm) (Steps.refl _) (argsL := argsL) (rest := rest) (lenOf hps hlen) rfl (by show 2 * 0 + _ ≤ _; omega) (hb hby hd) (fun _ _ => ⟨rfl, eT, hc, hs⟩)
  dsimp only [Pt.U, Pt.locs, Pt.cells, Pt.slots] at X' hS' hgr hpost hst
  obtain ⟨L, hQ, hFr, hEx, hL, hce, hsl, hCr, hWn⟩ := hpost
  subst hL hce hsl
  refine (K v T' T'.heap ?_ hQ).st fun t k => hst.trans k
  exact ⟨⟨_, X', Fr.app N hFr⟩, rfl, State.Warmed39.trans (t := s.setVm T.vm) hZ hS'.1, (hS'.1.alike.findClass _ _).trans hown, ⟨_, hS.trans hS' (Nat.le_trans hk (eT ▸ hgr)), Nat.le_refl _⟩, hC.trans hCr, fun x hx => ⟨Nat.lt_of_lt_of_le (hSf x hx).1 (eT ▸ hgr), hCr.safe (hSf x hx).1 (hSf x hx).2⟩,
    fun q => State.WarmedH.trans (hnw q) (State.WarmedH.trans (s := s.setVm T.vm) (t := T.setVm vm₁) hW₁ (hWn (hnw' q))), hEL, ⟨hx, hby, hml, hret, hnm, hlk⟩, hEx⟩
end Laws
end Jvm.OwnKit

/- laws to paste: Road.backV, Road.codOf, Road.eqW, Road.lenW, Road.chN (cut by pick.py; bodies as the Statement names them) -/
namespace Jvm.Pilot.@@N@@
namespace StrChars
open Jvm Sem ClassFile Op Lib Jvm.Stand Jvm.Free.XT Jvm.Free.ALB Jvm.Free.JM Jvm.Free
open Jvm.Lib.Cold (StaticIs)
/-- a char array whose places are chars -/
def Ch (a : Addr) (A : Cell) (U : State) : Prop := Arr .char a A U ∧ Typed .char A
theorem Ch.mv {a : Addr} {A : Cell} {U U' : State} (h : Ch a A U) (hal : U.vm.Alike U'.vm) (hh : U'.heap = U.heap) : Ch a A U' := ⟨h.1.mv hal hh, h.2⟩
theorem Ch.keep {a : Addr} {A : Cell} {U U' : State} (h : Ch a A U) (hal : U.vm.Alike U'.vm) (hk : U'.heap[a]? = some A) : Ch a A U' := ⟨h.1.keep hal hk, h.2⟩
/-- what place i of a char[]'s cell holds -/
def cv (A : Cell) (i : Nat) : Int32 := match A.slots[i]? with | some (.int x) => x | _ => 0
theorem Ch.get {a : Addr} {A : Cell} {U : State} (h : Ch a A U) {i : Nat} (hi : i < A.slots.size) : A.slots[i]? = some (.int (cv A i)) := by
  have e := Array.getElem?_eq_getElem hi
  have f := h.2 i _ e
  unfold cv; rw [e]
  generalize A.slots[i] = v at f
  cases v <;> simp [fits] at f ⊢
/-- the byte that i2b leaves of a char -/
def lo8 (x : Int32) : Int32 := x.toInt8.toInt32
theorem fits_lo8 (y : Int32) : fits .byte (.int (lo8 y)) = true := by
  have h1 := y.toInt8.le_toInt
  have h2 := y.toInt8.toInt_lt
  simp only [lo8, fits, Bool.and_eq_true, decide_eq_true_eq, Int32.le_iff_toInt_le, Int8.toInt_toInt32, show (-128 : Int32).toInt = -128 from by decide, show (127 : Int32).toInt = 127 from by decide]
  omega
/-- A' is A but that each place j of lo .. hi - 1 holds f j -/
def Laid (A A' : Cell) (lo hi : Nat) (f : Nat → Value) : Prop := A'.cls = A.cls ∧ A'.vm = A.vm ∧ A'.slots.size = A.slots.size ∧ ∀ i, A'.slots[i]? = if lo ≤ i ∧ i < hi then some (f i) else A.slots[i]?
theorem Laid.zero (A : Cell) (lo : Nat) (f : Nat → Value) : Laid A A lo (lo + 0) f := ⟨rfl, rfl, rfl, fun i => by rw [if_neg (by omega)]⟩
theorem Laid.step {A Ak : Cell} {lo k : Nat} {f : Nat → Value} {v : Value} (h : Laid A Ak lo k f) (hlo : lo ≤ k) (hk : k < Ak.slots.size) (hv : v = f k) : Laid A (Ak.setSlot k v) lo (k + 1) f := by
  refine ⟨h.1, h.2.1, by simpa [Cell.setSlot] using h.2.2.1, fun i => ?_⟩
  by_cases e : k = i
  · subst e; rw [Cell.slots_setSlot_self v hk, if_pos (by omega), hv]
  · rw [Cell.slots_setSlot_ne v e, h.2.2.2 i]
    by_cases q : lo ≤ i ∧ i < k
    · rw [if_pos q, if_pos (by omega)]
    · rw [if_neg q, if_neg (by omega)]
def U16 : String := "java/lang/StringUTF16"
namespace Cmp5
def yN : MethodName := ⟨"java/lang/StringUTF16", "compress", "([CI[BII)I"⟩
abbrev yB : ByteArray := jdk_52_method_21_code
theorem d0 : decode yB 0 = .ok (.iconst 0, 1) := by decide +kernel
theorem d1 : decode yB 1 = .ok (.istore 5, 2) := by decide +kernel
theorem d3 : decode yB 3 = .ok (.iload 5, 2) := by decide +kernel
theorem d5 : decode yB 5 = .ok (.iload 4, 2) := by decide +kernel
theorem d7 : decode yB 7 = .ok (.if_icmp (.ge) 37, 3) := by decide +kernel
theorem d10 : decode yB 10 = .ok (.aload_n 0, 1) := by decide +kernel
theorem d11 : decode yB 11 = .ok (.iload_n 1, 1) := by decide +kernel
theorem d12 : decode yB 12 = .ok (.caload, 1) := by decide +kernel
theorem d13 : decode yB 13 = .ok (.istore 6, 2) := by decide +kernel
theorem d15 : decode yB 15 = .ok (.iload 6, 2) := by decide +kernel
theorem d17 : decode yB 17 = .ok (.sipush 255, 3) := by decide +kernel
theorem d20 : decode yB 20 = .ok (.if_icmp (.le) 6, 3) := by decide +kernel
theorem d26 : decode yB 26 = .ok (.aload_n 2, 1) := by decide +kernel
theorem d27 : decode yB 27 = .ok (.iload_n 3, 1) := by decide +kernel
theorem d28 : decode yB 28 = .ok (.iload 6, 2) := by decide +kernel
theorem d30 : decode yB 30 = .ok (.i2b, 1) := by decide +kernel
theorem d31 : decode yB 31 = .ok (.bastore, 1) := by decide +kernel
theorem d32 : decode yB 32 = .ok (.iinc 1 1, 3) := by decide +kernel
theorem d35 : decode yB 35 = .ok (.iinc 3 1, 3) := by decide +kernel
theorem d38 : decode yB 38 = .ok (.iinc 5 1, 3) := by decide +kernel
theorem d41 : decode yB 41 = .ok (.goto (-38), 3) := by decide +kernel
theorem d44 : decode yB 44 = .ok (.iload 4, 2) := by decide +kernel
theorem d46 : decode yB 46 = .ok (.ireturn, 1) := by decide +kernel
def site : List Cond := []
def tab : Cond := tabOf yN yB 7 (some .int) site
def P (b : Addr) (A : Cell) (d : Addr) (B : Cell) (o q len : Nat) (args : Array Value) (s : State) : Prop := args = #[.ref b, .int (Int32.ofNat o), .ref d, .int (Int32.ofNat q), .int (Int32.ofNat len)] ∧ Ch b A s ∧ Arr .byte d B s ∧ b ≠ d ∧ o + len ≤ A.slots.size ∧ q + len ≤ B.slots.size ∧ ∀ i, i < len → ¬ 255 < cv A (o + i)
def E (b : Addr) (A : Cell) (d : Addr) (B : Cell) (o q len : Nat) (r : Option Value) (s u : State) : Prop := r = some (.int (Int32.ofNat len)) ∧ ∃ B', Put d B' s u ∧ Laid B B' q (q + len) (fun j => Value.int (lo8 (cv A (o + (j - q)))))
/-- no char of the range above 255: len; the places written hold each char's low byte -/
theorem law (l : Launch) (b : Addr) (A : Cell) (d : Addr) (B : Cell) (o q len : Nat) : Law l yN 5 5 0 0 yB 7 (some .int) site (P b A d B o q len) (E b A d B o q len) (copyLocs d q len) 0 0 := by
  refine Law.of_walk (plainFor_of_name (by decide +kernel)) (by decide +kernel) (by decide +kernel) (by decide) (fun _ _ h => by rw [h.1]; rfl) (fun _ U U' hal hh h => ⟨h.1, h.2.1.mv hal hh, h.2.2.1.mv hal hh, h.2.2.2⟩) (fun r U U' V V' h1 hal h2 h => ⟨h.1, h.2.elim fun B' q => ⟨B', q.1.mv h1 h2, q.2⟩⟩) ?_
  intro p e s m args below meth c s₁ X0 hexec hbytes hml hret hlk hnm hown hh0 W hP
  obtain ⟨rfl, hA, hB, hne, l1, l2, hp⟩ := hP
  have c1 : Steps p.tables e below (s₁.setTop (entryFrame m #[.ref b, .int (Int32.ofNat o), .ref d, .int (Int32.ofNat q), .int (Int32.ofNat len)] 7)) (s₁.setTop (mkF m 0 #[.val (.ref b), .val (.int (Int32.ofNat o)), .val (.ref d), .val (.int (Int32.ofNat q)), .val (.int (Int32.ofNat len)), .unset, .unset] [])) := entry rfl
  have hA0 := hA.1.mv X0.warmed.alike hh0
  have hB0 := hB.mv X0.warmed.alike hh0
  have a31 := hA.1.2.2.2
  have c2 : Steps p.tables e below (s₁.setTop (entryFrame m #[.ref b, .int (Int32.ofNat o), .ref d, .int (Int32.ofNat q), .int (Int32.ofNat len)] 7)) (s₁.setTop (mkF m 3 #[.val (.ref b), .val (.int (Int32.ofNat o)), .val (.ref d), .val (.int (Int32.ofNat q)), .val (.int (Int32.ofNat len)), .val (.int 0), .unset] [])) := c1.trans (by
    refine iconstV X0.here hexec rfl 0 (hb hbytes d0) (by decide) ?_
    refine XS.istore X0.here hexec rfl (hb hbytes d1) rfl rfl ?_
    exact Steps.refl _)
  have loop : ∀ (r i : Nat), i + r = len → ∀ (z : Slot), (z = .unset ∨ ∃ w, z = .val w ∧ w.category = 1) → ∀ (Tl : State) (Bk : Cell), Stand p l e { frames := 0, locals := 0, cells := 0, slots := 0 } s m #[.ref b, .int (Int32.ofNat o), .ref d, .int (Int32.ofNat q), .int (Int32.ofNat len)] below meth c Tl ([] ++ copyLocs d q i) 0 0 → Put d Bk s₁ Tl → Laid B Bk q (q + i) (fun j => Value.int (lo8 (cv A (o + (j - q))))) →
      Steps p.tables e below (s₁.setTop (entryFrame m #[.ref b, .int (Int32.ofNat o), .ref d, .int (Int32.ofNat q), .int (Int32.ofNat len)] 7)) (Tl.setTop (mkF m 3 #[.val (.ref b), .val (.int (Int32.ofNat (o + i))), .val (.ref d), .val (.int (Int32.ofNat (q + i))), .val (.int (Int32.ofNat len)), .val (.int (Int32.ofNat i)), z] [])) → ∃ (T' : State) (B' : Cell) (z' : Slot), Stand p l e { frames := 0, locals := 0, cells := 0, slots := 0 } s m #[.ref b, .int (Int32.ofNat o), .ref d, .int (Int32.ofNat q), .int (Int32.ofNat len)] below meth c T' ([] ++ copyLocs d q len) 0 0 ∧ Put d B' s₁ T' ∧ Laid B B' q (q + len) (fun j => Value.int (lo8 (cv A (o + (j - q))))) ∧
      Steps p.tables e below (s₁.setTop (entryFrame m #[.ref b, .int (Int32.ofNat o), .ref d, .int (Int32.ofNat q), .int (Int32.ofNat len)] 7)) (T'.setTop (mkF m 3 #[.val (.ref b), .val (.int (Int32.ofNat (o + len))), .val (.ref d), .val (.int (Int32.ofNat (q + len))), .val (.int (Int32.ofNat len)), .val (.int (Int32.ofNat len)), z'] [])) := by
    intro r
    induction r with
    | zero =>
      intro i hi z hz Tl Bk Xl pl fl cl
      have hil : i = len := by omega
      rw [hil] at Xl fl cl
      exact ⟨Tl, Bk, z, Xl, pl, fl, cl⟩
    | succ r ih =>
      intro i hi z hz Tl Bk Xl pl fl cl
      have all := X0.warmed.alike.symm.trans Xl.warmed.alike
      have hAl := hA0.keep all (pl.other hne hA0.1)
      have hBk := hB0.like all pl.1 fl.1 fl.2.1 fl.2.2.1
      have hlt : q + i < Bk.slots.size := by rw [fl.2.2.1]; omega
      have c3 : Steps p.tables e below (s₁.setTop (entryFrame m #[.ref b, .int (Int32.ofNat o), .ref d, .int (Int32.ofNat q), .int (Int32.ofNat len)] 7)) (Tl.setTop (mkF m 12 #[.val (.ref b), .val (.int (Int32.ofNat (o + i))), .val (.ref d), .val (.int (Int32.ofNat (q + i))), .val (.int (Int32.ofNat len)), .val (.int (Int32.ofNat i)), z] [.int (Int32.ofNat (o + i)), .ref b])) := cl.trans (by
        refine XS.iload Xl.here hexec rfl (hb hbytes d3) rfl ?_
        refine XS.iload Xl.here hexec rfl (hb hbytes d5) rfl ?_
        refine XS.icmpNo Xl.here hexec rfl (hb hbytes d7) rfl (ii_ge_f (lt32 (by omega) (by omega))) ?_
        refine XS.aloadN Xl.here hexec rfl (hb hbytes d10) rfl rfl ?_
        refine XS.iloadN Xl.here hexec rfl (hb hbytes d11) rfl ?_
        exact Steps.refl _)
      have c4 : Steps p.tables e below (s₁.setTop (entryFrame m #[.ref b, .int (Int32.ofNat o), .ref d, .int (Int32.ofNat q), .int (Int32.ofNat len)] 7)) (Tl.setTop (mkF m 13 #[.val (.ref b), .val (.int (Int32.ofNat (o + i))), .val (.ref d), .val (.int (Int32.ofNat (q + i))), .val (.int (Int32.ofNat len)), .val (.int (Int32.ofNat i)), z] [.int (cv A (o + i))])) := c3.trans (by
        refine Xl.aget hexec hAl rfl (hA.get (i := o + i) (by omega)) rfl rfl (hb hbytes d12) ?_
        exact Steps.refl _)
      have c5 : Steps p.tables e below (s₁.setTop (entryFrame m #[.ref b, .int (Int32.ofNat o), .ref d, .int (Int32.ofNat q), .int (Int32.ofNat len)] 7)) (Tl.setTop (mkF m 15 #[.val (.ref b), .val (.int (Int32.ofNat (o + i))), .val (.ref d), .val (.int (Int32.ofNat (q + i))), .val (.int (Int32.ofNat len)), .val (.int (Int32.ofNat i)), .val (.int (cv A (o + i)))] [])) := c4.trans (by
        refine XS.istoreS Xl.here hexec rfl (hb hbytes d13) rfl rfl hz ?_
        exact Steps.refl _)
      have c6 : Steps p.tables e below (s₁.setTop (entryFrame m #[.ref b, .int (Int32.ofNat o), .ref d, .int (Int32.ofNat q), .int (Int32.ofNat len)] 7)) (Tl.setTop (mkF m 31 #[.val (.ref b), .val (.int (Int32.ofNat (o + i))), .val (.ref d), .val (.int (Int32.ofNat (q + i))), .val (.int (Int32.ofNat len)), .val (.int (Int32.ofNat i)), .val (.int (cv A (o + i)))] [.int (lo8 (cv A (o + i))), .int (Int32.ofNat (q + i)), .ref d])) := c5.trans (by
        refine XS.iload Xl.here hexec rfl (hb hbytes d15) rfl ?_
        refine sipushV Xl.here hexec rfl 255 (hb hbytes d17) (by decide) ?_
        refine XS.icmpYes Xl.here hexec rfl (pc0 := 20) rfl (hb hbytes d20) rfl (ii_le_t (hp i (by omega))) (by decide) rfl ?_
        refine XS.aloadN Xl.here hexec rfl (hb hbytes d26) rfl rfl ?_
        refine XS.iloadN Xl.here hexec rfl (hb hbytes d27) rfl ?_
        refine XS.iload Xl.here hexec rfl (hb hbytes d28) rfl ?_
        refine i2b Xl.here hexec rfl (hb hbytes d30) rfl ?_
        exact Steps.refl _)
      obtain ⟨T7, X7, p7, st7⟩ := Xl.aput hexec hBk rfl hlt rfl (fits_lo8 (cv A (o + i))) (g := (mkF m 31 #[.val (.ref b), .val (.int (Int32.ofNat (o + i))), .val (.ref d), .val (.int (Int32.ofNat (q + i))), .val (.int (Int32.ofNat len)), .val (.int (Int32.ofNat i)), .val (.int (cv A (o + i)))] [.int (lo8 (cv A (o + i))), .int (Int32.ofNat (q + i)), .ref d])) rfl (rest := []) rfl (hb hbytes d31)
      have c8 : Steps p.tables e below (s₁.setTop (entryFrame m #[.ref b, .int (Int32.ofNat o), .ref d, .int (Int32.ofNat q), .int (Int32.ofNat len)] 7)) (T7.setTop (mkF m 32 #[.val (.ref b), .val (.int (Int32.ofNat (o + i))), .val (.ref d), .val (.int (Int32.ofNat (q + i))), .val (.int (Int32.ofNat len)), .val (.int (Int32.ofNat i)), .val (.int (cv A (o + i)))] [])) := c6.trans (st7 _ (Steps.refl _))
      have c9 : Steps p.tables e below (s₁.setTop (entryFrame m #[.ref b, .int (Int32.ofNat o), .ref d, .int (Int32.ofNat q), .int (Int32.ofNat len)] 7)) (T7.setTop (mkF m 3 #[.val (.ref b), .val (.int (Int32.ofNat (o + i) + 1)), .val (.ref d), .val (.int (Int32.ofNat (q + i) + 1)), .val (.int (Int32.ofNat len)), .val (.int (Int32.ofNat i + 1)), .val (.int (cv A (o + i)))] [])) := c8.trans (by
        refine iincV X7.here hexec rfl 1 (hb hbytes d32) (by decide) rfl rfl ?_
        refine iincV X7.here hexec rfl 1 (hb hbytes d35) (by decide) rfl rfl ?_
        refine iincV X7.here hexec rfl 1 (hb hbytes d38) (by decide) rfl rfl ?_
        refine XS.goto X7.here hexec rfl (pc0 := 41) rfl (hb hbytes d41) (by decide) rfl ?_
        exact Steps.refl _)
      have c10 : Steps p.tables e below (s₁.setTop (entryFrame m #[.ref b, .int (Int32.ofNat o), .ref d, .int (Int32.ofNat q), .int (Int32.ofNat len)] 7)) (T7.setTop (mkF m 3 #[.val (.ref b), .val (.int (Int32.ofNat (o + (i + 1)))), .val (.ref d), .val (.int (Int32.ofNat (q + (i + 1)))), .val (.int (Int32.ofNat len)), .val (.int (Int32.ofNat (i + 1))), .val (.int (cv A (o + i)))] [])) := by
        have := c9
        rw [succ32, succ32, succ32] at this
        exact this
      exact ih (i + 1) (by omega) _ (Or.inr ⟨_, rfl, rfl⟩) T7 _ (by rw [copyLocs_step, ← List.append_assoc]; exact X7) (pl.trans p7) (fl.step (by omega) hlt (by simp)) c10
  obtain ⟨T9, B9, z9, X9, p9, f9, g9⟩ := loop len 0 (by omega) .unset (Or.inl rfl) s₁ B (by simpa [copyLocs] using X0) ⟨hB0.1, fun _ _ => rfl, rfl⟩ (Laid.zero _ _ _) c2
  have c11 : Steps p.tables e below (s₁.setTop (entryFrame m #[.ref b, .int (Int32.ofNat o), .ref d, .int (Int32.ofNat q), .int (Int32.ofNat len)] 7)) (T9.setTop (mkF m 46 #[.val (.ref b), .val (.int (Int32.ofNat (o + len))), .val (.ref d), .val (.int (Int32.ofNat (q + len))), .val (.int (Int32.ofNat len)), .val (.int (Int32.ofNat len)), z9] [.int (Int32.ofNat len)])) := g9.trans (by
    refine XS.iload X9.here hexec rfl (hb hbytes d3) rfl ?_
    refine XS.iload X9.here hexec rfl (hb hbytes d5) rfl ?_
    refine XS.icmpYes X9.here hexec rfl (pc0 := 7) rfl (hb hbytes d7) rfl (ii_ge_t (nlt32 (by omega) (Nat.le_refl _))) (by decide) rfl ?_
    refine XS.iload X9.here hexec rfl (hb hbytes d44) rfl ?_
    exact Steps.refl _)
  exact ⟨T9, some (.int (Int32.ofNat len)), _, _, _, X9, by simp, rfl, rfl, (fun h => by cases h), ⟨rfl, B9, p9.from hh0, f9⟩, fun fs hl => c11.trans (X9.ireturnOut hexec hret rfl (Or.inl rfl) (hb hbytes d46) hl)⟩
end Cmp5
namespace Cmp3
def yN : MethodName := ⟨"java/lang/StringUTF16", "compress", "([CII)[B"⟩
abbrev yB : ByteArray := jdk_52_method_16_code
theorem d0 : decode yB 0 = .ok (.iload_n 2, 1) := by decide +kernel
theorem d1 : decode yB 1 = .ok (.newarray .byte, 2) := by decide +kernel
theorem d3 : decode yB 3 = .ok (.astore_n 3, 1) := by decide +kernel
theorem d4 : decode yB 4 = .ok (.aload_n 0, 1) := by decide +kernel
theorem d5 : decode yB 5 = .ok (.iload_n 1, 1) := by decide +kernel
theorem d6 : decode yB 6 = .ok (.aload_n 3, 1) := by decide +kernel
theorem d7 : decode yB 7 = .ok (.iconst 0, 1) := by decide +kernel
theorem d8 : decode yB 8 = .ok (.iload_n 2, 1) := by decide +kernel
theorem d9 : decode yB 9 = .ok (.invokestatic 115, 3) := by decide +kernel
theorem d12 : decode yB 12 = .ok (.istore 4, 2) := by decide +kernel
theorem d14 : decode yB 14 = .ok (.iload 4, 2) := by decide +kernel
theorem d16 : decode yB 16 = .ok (.iload_n 2, 1) := by decide +kernel
theorem d17 : decode yB 17 = .ok (.if_icmp (.eq) 40, 3) := by decide +kernel
theorem d57 : decode yB 57 = .ok (.aload_n 3, 1) := by decide +kernel
theorem d58 : decode yB 58 = .ok (.areturn, 1) := by decide +kernel
def site : List Cond := [.arrayClass .byte, Cmp5.tab] ++ staticW U16 115 Cmp5.yN
def tab : Cond := tabOf yN yB 6 (some (.array .byte)) site
def P (b : Addr) (A : Cell) (o len : Nat) (args : Array Value) (s : State) : Prop := args = #[.ref b, .int (Int32.ofNat o), .int (Int32.ofNat len)] ∧ Ch b A s ∧ o + len ≤ A.slots.size ∧ len ≤ 536870912 ∧ ∀ i, i < len → ¬ 255 < cv A (o + i)
def E (b : Addr) (A : Cell) (o len : Nat) (r : Option Value) (s u : State) : Prop := NewArr .byte "[B" len (fun j => .int (lo8 (cv A (o + j)))) r s u ∧ u.heap.size = s.heap.size + 1
/-- no char of the range above 255: a new byte[] of their low bytes -/
theorem law (l : Launch) (b : Addr) (A : Cell) (o len : Nat) : Law l yN 3 3 1 18 yB 6 (some (.array .byte)) site (P b A o len) (E b A o len) [] 1 len := by
  refine Law.of_walk (plainFor_of_name (by decide +kernel)) (by decide +kernel) (by decide +kernel) (by decide) (fun _ _ h => by rw [h.1]; rfl) (fun _ U U' hal hh h => ⟨h.1, h.2.1.mv hal hh, h.2.2⟩) (fun r U U' V V' h1 hal h2 h => ⟨NewArr.mv r U U' V V' h1 hal h2 h.1, by rw [h1, h2]; exact h.2⟩) ?_
  intro p e s m args below meth c s₁ X0 hexec hbytes hml hret hlk hnm hown hh0 W hP
  obtain ⟨rfl, hA, l1, l2, hp⟩ := hP
  have a31 := hA.1.2.2.2
  have c1 : Steps p.tables e below (s₁.setTop (entryFrame m #[.ref b, .int (Int32.ofNat o), .int (Int32.ofNat len)] 6)) (s₁.setTop (mkF m 0 #[.val (.ref b), .val (.int (Int32.ofNat o)), .val (.int (Int32.ofNat len)), .unset, .unset, .unset] [])) := entry rfl
  have c2 : Steps p.tables e below (s₁.setTop (entryFrame m #[.ref b, .int (Int32.ofNat o), .int (Int32.ofNat len)] 6)) (s₁.setTop (mkF m 1 #[.val (.ref b), .val (.int (Int32.ofNat o)), .val (.int (Int32.ofNat len)), .unset, .unset, .unset] [.int (Int32.ofNat len)])) := c1.trans (by
    refine XS.iloadN X0.here hexec rfl (hb hbytes d0) rfl ?_
    exact Steps.refl _)
  obtain ⟨T3, B3, X3, ba3, bs3, bv3, bh3, bf3, st3⟩ := X0.anew hexec (atype := .byte) (wk W (.arrayClass .byte)) rfl (by show len * 1 ≤ _; omega) (by omega) (g := (mkF m 1 #[.val (.ref b), .val (.int (Int32.ofNat o)), .val (.int (Int32.ofNat len)), .unset, .unset, .unset] [.int (Int32.ofNat len)])) rfl (hb hbytes d1) (rest := []) rfl (Nat.le_refl _) (by show 0 + len ≤ len; omega)
  rw [hh0] at ba3 st3
  have kp3 : XT.Kept s T3 := (XT.Kept.of_eq hh0).push bh3
  have hA3 := hA.keep X3.warmed.alike (kp3 _ _ hA.1.1)
  have hne : b ≠ s.heap.size := hA.1.ne
  have c4 : Steps p.tables e below (s₁.setTop (entryFrame m #[.ref b, .int (Int32.ofNat o), .int (Int32.ofNat len)] 6)) (T3.setTop (mkF m 3 #[.val (.ref b), .val (.int (Int32.ofNat o)), .val (.int (Int32.ofNat len)), .unset, .unset, .unset] [.ref s.heap.size])) := c2.trans (st3 _ (Steps.refl _))
  have c5 : Steps p.tables e below (s₁.setTop (entryFrame m #[.ref b, .int (Int32.ofNat o), .int (Int32.ofNat len)] 6)) (T3.setTop (mkF m 9 #[.val (.ref b), .val (.int (Int32.ofNat o)), .val (.int (Int32.ofNat len)), .val (.ref s.heap.size), .unset, .unset] [.int (Int32.ofNat len), .int 0, .ref s.heap.size, .int (Int32.ofNat o), .ref b])) := c4.trans (by
    refine XS.astoreN X3.here hexec rfl (hb hbytes d3) rfl rfl rfl ?_
    refine XS.aloadN X3.here hexec rfl (hb hbytes d4) rfl rfl ?_
    refine XS.iloadN X3.here hexec rfl (hb hbytes d5) rfl ?_
    refine XS.aloadN X3.here hexec rfl (hb hbytes d6) rfl rfl ?_
    refine iconstV X3.here hexec rfl 0 (hb hbytes d7) (by decide) ?_
    refine XS.iloadN X3.here hexec rfl (hb hbytes d8) rfl ?_
    exact Steps.refl _)
  obtain ⟨v6, T6, X6, E6, g6⟩ := X3.callS hexec (Cmp5.law l b A s.heap.size B3 o 0 len) hown (wks W (staticW U16 115 Cmp5.yN)) (wk W Cmp5.tab) (W := 0) (Nat.le_of_ble_eq_true rfl) (Nat.le_of_ble_eq_true rfl) (Nat.le_refl _) (by show 0 + len + 0 ≤ len; omega) (g := (mkF m 9 #[.val (.ref b), .val (.int (Int32.ofNat o)), .val (.int (Int32.ofNat len)), .val (.ref s.heap.size), .unset, .unset] [.int (Int32.ofNat len), .int (Int32.ofNat 0), .ref s.heap.size, .int (Int32.ofNat o), .ref b])) rfl (by rw [hml]; rfl) c5 (argsL := [.ref b, .int (Int32.ofNat o), .ref s.heap.size, .int (Int32.ofNat 0), .int (Int32.ofNat len)]) (rest := []) rfl rfl (by show 2 * 0 + 0 ≤ _; decide) (hb hbytes d9) (⟨rfl, hA3, ba3, hne, l1, by rw [bs3]; simp, hp⟩)
  obtain ⟨rfl, B6, p6, f6⟩ := E6
  have c7 : Steps p.tables e below (s₁.setTop (entryFrame m #[.ref b, .int (Int32.ofNat o), .int (Int32.ofNat len)] 6)) (T6.setTop (mkF m 12 #[.val (.ref b), .val (.int (Int32.ofNat o)), .val (.int (Int32.ofNat len)), .val (.ref s.heap.size), .unset, .unset] [.int (Int32.ofNat len)])) := g6
  have c8 : Steps p.tables e below (s₁.setTop (entryFrame m #[.ref b, .int (Int32.ofNat o), .int (Int32.ofNat len)] 6)) (T6.setTop (mkF m 58 #[.val (.ref b), .val (.int (Int32.ofNat o)), .val (.int (Int32.ofNat len)), .val (.ref s.heap.size), .val (.int (Int32.ofNat len)), .unset] [.ref s.heap.size])) := c7.trans (by
    refine XS.istore X6.here hexec rfl (hb hbytes d12) rfl rfl ?_
    refine XS.iload X6.here hexec rfl (hb hbytes d14) rfl ?_
    refine XS.iloadN X6.here hexec rfl (hb hbytes d16) rfl ?_
    refine XS.icmpYes X6.here hexec rfl (pc0 := 17) rfl (hb hbytes d17) rfl (ii_eq_t rfl) (by decide) rfl ?_
    refine XS.aloadN X6.here hexec rfl (hb hbytes d57) rfl rfl ?_
    exact Steps.refl _)
  have X8 := X6.wide (L' := []) (cells' := 1) (slots' := len) (fun x hx hlt => by
    simp only [List.nil_append, copyLocs, List.mem_map, List.mem_range] at hx
    obtain ⟨i, -, rfl⟩ := hx
    exact absurd hlt (Nat.lt_irrefl _)) (Nat.le_refl _) (by omega)
  exact ⟨T6, some (.ref s.heap.size), _, _, _, X8, rfl, rfl, rfl, (fun h => by cases h), ⟨⟨rfl, B6, ba3.like (X3.warmed.alike.symm.trans X6.warmed.alike) p6.1 f6.1 f6.2.1 f6.2.2.1, f6.2.1.trans bv3, by rw [X6.warmed.alike.findClass, f6.1]; exact bf3, by rw [f6.2.2.1, bs3]; simp, fun j hj => by rw [f6.2.2.2 j, if_pos (by omega)]; rfl, kp3.put p6 (Nat.le_refl _)⟩, by rw [p6.2.2, bh3, hh0]; simp⟩, fun fs hl => c8.trans (X8.areturnOut hexec rfl hret rfl (hb hbytes d58) hl)⟩
end Cmp3
namespace CodL
def yN : MethodName := ⟨"java/lang/StringUTF16", "coderFromArrayLen", "([BI)B"⟩
abbrev yB : ByteArray := jdk_52_method_15_code
theorem d0 : decode yB 0 = .ok (.iload_n 1, 1) := by decide +kernel
theorem d1 : decode yB 1 = .ok (.aload_n 0, 1) := by decide +kernel
theorem d2 : decode yB 2 = .ok (.arraylength, 1) := by decide +kernel
theorem d3 : decode yB 3 = .ok (.isub, 1) := by decide +kernel
theorem d4 : decode yB 4 = .ok (.bipush 31, 2) := by decide +kernel
theorem d6 : decode yB 6 = .ok (.iushr, 1) := by decide +kernel
theorem d7 : decode yB 7 = .ok (.i2b, 1) := by decide +kernel
theorem d8 : decode yB 8 = .ok (.ireturn, 1) := by decide +kernel
def site : List Cond := []
def tab : Cond := tabOf yN yB 2 (some .byte) site
def P (d : Addr) (B : Cell) (args : Array Value) (s : State) : Prop := args = #[.ref d, .int (Int32.ofNat B.slots.size)] ∧ Arr .byte d B s
def E (r : Option Value) (s u : State) : Prop := XT.PureE (some (.int 0)) r s u
/-- an array as long as the number of chars: LATIN1 -/
theorem law (l : Launch) (d : Addr) (B : Cell) : Law l yN 2 2 0 0 yB 2 (some .byte) site (P d B) E [] 0 0 := by
  refine Law.of_walk (plainFor_of_name (by decide +kernel)) (by decide +kernel) (by decide +kernel) (by decide) (fun _ _ h => by rw [h.1]; rfl) (fun _ U U' hal hh h => ⟨h.1, h.2.mv hal hh⟩) (fun r U U' V V' h1 hal h2 h => XT.PureE.mv r U U' V V' h1 hal h2 h) ?_
  intro p e s m args below meth c s₁ X0 hexec hbytes hml hret hlk hnm hown hh0 W hP
  obtain ⟨rfl, hB⟩ := hP
  have hB0 := hB.mv X0.warmed.alike hh0
  have c1 : Steps p.tables e below (s₁.setTop (entryFrame m #[.ref d, .int (Int32.ofNat B.slots.size)] 2)) (s₁.setTop (mkF m 0 #[.val (.ref d), .val (.int (Int32.ofNat B.slots.size))] [])) := entry rfl
  have c2 : Steps p.tables e below (s₁.setTop (entryFrame m #[.ref d, .int (Int32.ofNat B.slots.size)] 2)) (s₁.setTop (mkF m 2 #[.val (.ref d), .val (.int (Int32.ofNat B.slots.size))] [.ref d, .int (Int32.ofNat B.slots.size)])) := c1.trans (by
    refine XS.iloadN X0.here hexec rfl (hb hbytes d0) rfl ?_
    refine XS.aloadN X0.here hexec rfl (hb hbytes d1) rfl rfl ?_
    exact Steps.refl _)
  have c3 : Steps p.tables e below (s₁.setTop (entryFrame m #[.ref d, .int (Int32.ofNat B.slots.size)] 2)) (s₁.setTop (mkF m 8 #[.val (.ref d), .val (.int (Int32.ofNat B.slots.size))] [.int (lo8 (ushr (Int32.ofNat B.slots.size - Int32.ofNat B.slots.size) 31))])) := c2.trans (by
    refine X0.alen hexec hB0 rfl rfl (hb hbytes d2) ?_
    refine XS.isub X0.here hexec rfl (hb hbytes d3) rfl ?_
    refine bipushV X0.here hexec rfl 31 (hb hbytes d4) (by decide) ?_
    refine iushr X0.here hexec rfl (hb hbytes d6) rfl ?_
    refine i2b X0.here hexec rfl (hb hbytes d7) rfl ?_
    exact Steps.refl _)
  have e0 : lo8 (ushr (Int32.ofNat B.slots.size - Int32.ofNat B.slots.size) 31) = 0 := by rw [Int32.sub_self]; decide
  rw [e0] at c3
  exact ⟨s₁, some (.int 0), _, _, _, X0, rfl, rfl, rfl, (fun h => by cases h), ⟨rfl, hh0⟩, fun fs hl => c3.trans (X0.ireturnOut hexec hret rfl (Or.inr (Or.inr (Or.inl rfl))) (hb hbytes d8) hl)⟩
end CodL
/-- the String at a is Latin-1 over a new byte[] (the heap's one new cell): the low bytes of the len chars of A from o on; every cell but a is kept -/
def Got (a : Addr) (D : Cell) (fV fC : Field) (A : Cell) (o len : Nat) (r : Option Value) (s u : State) : Prop := r = none ∧ ∃ D' V : Cell, Blank "java/lang/String" a D' u ∧ Same D D' [fV.slot, fC.slot] ∧ D'.slots[fV.slot]? = some (.ref s.heap.size) ∧ D'.slots[fC.slot]? = some (.int 0) ∧ Arr .byte s.heap.size V u ∧ V.vm = .none ∧ u.vm.findClass "[B" = some V.cls ∧ V.slots.size = len ∧ (∀ j, j < len → V.slots[j]? = some (.int (lo8 (cv A (o + j))))) ∧ (∀ (y : Addr) (c : Cell), y ≠ a → s.heap[y]? = some c → u.heap[y]? = some c) ∧ u.heap.size = s.heap.size + 1
theorem Got.mv {a : Addr} {D A : Cell} {fV fC : Field} {o len : Nat} : ∀ r (U U' V V' : State), U'.heap = U.heap → V.vm.Alike V'.vm → V'.heap = V.heap → Got a D fV fC A o len r U V → Got a D fV fC A o len r U' V' :=
  fun r U U' V V' h1 hal h2 ⟨e0, D', X, a1, a2, a3, a4, a5, a6, a7, a8, a9, a10, a11⟩ => ⟨e0, D', X, a1.mv hal h2, a2, by rw [h1]; exact a3, a4, by rw [h1]; exact a5.mv hal h2, a6, by rw [hal.findClass]; exact a7, a8, a9, by rw [h1, h2]; exact a10, by rw [h1, h2]; exact a11⟩
namespace New4
def yN : MethodName := ⟨"java/lang/String", "<init>", "([CIILjava/lang/Void;)V"⟩
abbrev yB : ByteArray := jdk_42_method_149_code
theorem d0 : decode yB 0 = .ok (.aload_n 0, 1) := by decide +kernel
theorem d1 : decode yB 1 = .ok (.invokespecial 1, 3) := by decide +kernel
theorem d4 : decode yB 4 = .ok (.iload_n 3, 1) := by decide +kernel
theorem d5 : decode yB 5 = .ok (.ifCond (.ne) 22, 3) := by decide +kernel
theorem d27 : decode yB 27 = .ok (.getstatic 38, 3) := by decide +kernel
theorem d30 : decode yB 30 = .ok (.ifCond (.eq) 28, 3) := by decide +kernel
theorem d33 : decode yB 33 = .ok (.aload_n 1, 1) := by decide +kernel
theorem d34 : decode yB 34 = .ok (.iload_n 2, 1) := by decide +kernel
theorem d35 : decode yB 35 = .ok (.iload_n 3, 1) := by decide +kernel
theorem d36 : decode yB 36 = .ok (.invokestatic 177, 3) := by decide +kernel
theorem d39 : decode yB 39 = .ok (.astore 5, 2) := by decide +kernel
theorem d41 : decode yB 41 = .ok (.aload_n 0, 1) := by decide +kernel
theorem d42 : decode yB 42 = .ok (.aload 5, 2) := by decide +kernel
theorem d44 : decode yB 44 = .ok (.iload_n 3, 1) := by decide +kernel
theorem d45 : decode yB 45 = .ok (.invokestatic 47, 3) := by decide +kernel
theorem d48 : decode yB 48 = .ok (.putfield 15, 3) := by decide +kernel
theorem d51 : decode yB 51 = .ok (.aload_n 0, 1) := by decide +kernel
theorem d52 : decode yB 52 = .ok (.aload 5, 2) := by decide +kernel
theorem d54 : decode yB 54 = .ok (.putfield 9, 3) := by decide +kernel
theorem d57 : decode yB 57 = .ok (.return_, 1) := by decide +kernel
def site : List Cond := [.fieldLink "java/lang/String" 38 "java/lang/String" "COMPACT_STRINGS" "Z", Cmp3.tab, CodL.tab, .laysFinal "java/lang/String" "java/lang/String" "value" "[B", .fieldLink "java/lang/String" 9 "java/lang/String" "value" "[B", .laysFinal "java/lang/String" "java/lang/String" "coder" "B", .fieldLink "java/lang/String" 15 "java/lang/String" "coder" "B"] ++ objW "java/lang/String" 1 ++ staticW "java/lang/String" 177 Cmp3.yN ++ staticW "java/lang/String" 47 CodL.yN
def tab : Cond := tabOf yN yB 6 none site
def P (a : Addr) (D : Cell) (fV fC : Field) (b : Addr) (A : Cell) (z : Int32) (o len : Nat) (args : Array Value) (s : State) : Prop := args = #[.ref a, .ref b, .int (Int32.ofNat o), .int (Int32.ofNat len), .null] ∧ Blank "java/lang/String" a D s ∧ Found "java/lang/String" "value" "[B" fV s ∧ Found "java/lang/String" "coder" "B" fC s ∧ Ch b A s ∧ StaticIs s "java/lang/String" "COMPACT_STRINGS" "Z" (.int z) ∧ ¬ z = 0 ∧ 0 < len ∧ o + len ≤ A.slots.size ∧ len ≤ 536870912 ∧ ∀ i, i < len → ¬ 255 < cv A (o + i)
def E (a : Addr) (D : Cell) (fV fC : Field) (A : Cell) (o len : Nat) (r : Option Value) (s u : State) : Prop := Got a D fV fC A o len r s u
/-- len > 0, no char of the range above 255: a Latin-1 String of their low bytes -/
theorem law (l : Launch) (a : Addr) (D : Cell) (fV fC : Field) (b : Addr) (A : Cell) (z : Int32) (o len : Nat) : Law l yN 5 4 2 35 yB 6 none site (P a D fV fC b A z o len) (E a D fV fC A o len) [⟨a, fC.slot⟩, ⟨a, fV.slot⟩] 1 len := by
  refine Law.of_walk (plainFor_of_name (by decide +kernel)) (by decide +kernel) (by decide +kernel) (by decide) (fun _ _ h => by rw [h.1]; rfl) (fun _ U U' hal hh h => ⟨h.1, h.2.1.mv hal hh, h.2.2.1.al hal, h.2.2.2.1.al hal, h.2.2.2.2.1.mv hal hh, h.2.2.2.2.2.1.there hal hh, h.2.2.2.2.2.2⟩) (fun r U U' V V' h1 hal h2 h => Got.mv r U U' V V' h1 hal h2 h) ?_
  intro p e s m args below meth c s₁ X0 hexec hbytes hml hret hlk hnm hown hh0 W hP
  obtain ⟨rfl, hB, f1, f2, hA, s1, hz, l0, l1, l2, hp⟩ := hP
  have a31 := hA.1.2.2.2
  have c1 : Steps p.tables e below (s₁.setTop (entryFrame m #[.ref a, .ref b, .int (Int32.ofNat o), .int (Int32.ofNat len), .null] 6)) (s₁.setTop (mkF m 0 #[.val (.ref a), .val (.ref b), .val (.int (Int32.ofNat o)), .val (.int (Int32.ofNat len)), .val .null, .unset] [])) := entry rfl
  have c2 : Steps p.tables e below (s₁.setTop (entryFrame m #[.ref a, .ref b, .int (Int32.ofNat o), .int (Int32.ofNat len), .null] 6)) (s₁.setTop (mkF m 1 #[.val (.ref a), .val (.ref b), .val (.int (Int32.ofNat o)), .val (.int (Int32.ofNat len)), .val .null, .unset] [.ref a])) := c1.trans (by
    refine XS.aloadN X0.here hexec rfl (hb hbytes d0) rfl rfl ?_
    exact Steps.refl _)
  obtain ⟨T3, X3, q3, st3⟩ := X0.oinit hexec hown (wks W (objW "java/lang/String" 1)) (g := (mkF m 1 #[.val (.ref a), .val (.ref b), .val (.int (Int32.ofNat o)), .val (.int (Int32.ofNat len)), .val .null, .unset] [.ref a])) rfl (by rw [hml]; rfl) (rest := []) rfl (hb hbytes d1) (W := 0) (by show 2 * 0 + 0 ≤ _; decide) (Nat.le_of_ble_eq_true rfl) (Nat.le_of_ble_eq_true rfl)
  have hh3 := q3.trans hh0
  have c4 : Steps p.tables e below (s₁.setTop (entryFrame m #[.ref a, .ref b, .int (Int32.ofNat o), .int (Int32.ofNat len), .null] 6)) (T3.setTop (mkF m 27 #[.val (.ref a), .val (.ref b), .val (.int (Int32.ofNat o)), .val (.int (Int32.ofNat len)), .val .null, .unset] [])) := (c2.trans (st3 _ (Steps.refl _))).trans (by
    refine XS.iloadN X3.here hexec rfl (hb hbytes d4) rfl ?_
    refine XS.ifYes X3.here hexec rfl (pc0 := 5) rfl (hb hbytes d5) rfl (i0_ne_t (nz32 (by omega) l0)) (by decide) rfl ?_
    exact Steps.refl _)
  obtain ⟨T5, X5, q5, st5⟩ := X3.sget hexec hown (wk W (.fieldLink "java/lang/String" 38 "java/lang/String" "COMPACT_STRINGS" "Z")) s1 (fun _ _ h => by rw [hh3]; exact h) (g := (mkF m 27 #[.val (.ref a), .val (.ref b), .val (.int (Int32.ofNat o)), .val (.int (Int32.ofNat len)), .val .null, .unset] [])) rfl (hb hbytes d27)
  have hh5 := q5.trans hh3
  have c6 : Steps p.tables e below (s₁.setTop (entryFrame m #[.ref a, .ref b, .int (Int32.ofNat o), .int (Int32.ofNat len), .null] 6)) (T5.setTop (mkF m 30 #[.val (.ref a), .val (.ref b), .val (.int (Int32.ofNat o)), .val (.int (Int32.ofNat len)), .val .null, .unset] [.int z])) := c4.trans (st5 _ (Steps.refl _))
  have c7 : Steps p.tables e below (s₁.setTop (entryFrame m #[.ref a, .ref b, .int (Int32.ofNat o), .int (Int32.ofNat len), .null] 6)) (T5.setTop (mkF m 36 #[.val (.ref a), .val (.ref b), .val (.int (Int32.ofNat o)), .val (.int (Int32.ofNat len)), .val .null, .unset] [.int (Int32.ofNat len), .int (Int32.ofNat o), .ref b])) := c6.trans (by
    refine XS.ifNo X5.here hexec rfl (hb hbytes d30) rfl (i0_eq_f hz) ?_
    refine XS.aloadN X5.here hexec rfl (hb hbytes d33) rfl rfl ?_
    refine XS.iloadN X5.here hexec rfl (hb hbytes d34) rfl ?_
    refine XS.iloadN X5.here hexec rfl (hb hbytes d35) rfl ?_
    exact Steps.refl _)
  obtain ⟨v8, T8, X8, E8, g8⟩ := X5.callS hexec (Cmp3.law l b A o len) hown (wks W (staticW "java/lang/String" 177 Cmp3.yN)) (wk W Cmp3.tab) (W := 0) (Nat.le_of_ble_eq_true rfl) (Nat.le_of_ble_eq_true rfl) (Nat.le_refl _) (by show 0 + len ≤ len; omega) (g := (mkF m 36 #[.val (.ref a), .val (.ref b), .val (.int (Int32.ofNat o)), .val (.int (Int32.ofNat len)), .val .null, .unset] [.int (Int32.ofNat len), .int (Int32.ofNat o), .ref b])) rfl (by rw [hml]; rfl) c7 (argsL := [.ref b, .int (Int32.ofNat o), .int (Int32.ofNat len)]) (rest := []) rfl rfl (by show 2 * 0 + 0 ≤ _; decide) (hb hbytes d36) (⟨rfl, hA.mv X5.warmed.alike hh5, l1, l2, hp⟩)
  obtain ⟨e8, z8⟩ := E8
  obtain ⟨rfl, N, n1, n2, n3, n4, n5, n6⟩ := NewArr.mv _ T5 s _ _ hh5.symm (Vm.Alike.refl _) rfl e8
  rw [hh5] at z8
  have hB1 := hB.keep X8.warmed.alike (n6 _ _ hB.1)
  have hne : s.heap.size ≠ a := (Nat.ne_of_lt (Array.getElem?_eq_some_iff.mp hB.1).1).symm
  have c9 : Steps p.tables e below (s₁.setTop (entryFrame m #[.ref a, .ref b, .int (Int32.ofNat o), .int (Int32.ofNat len), .null] 6)) (T8.setTop (mkF m 39 #[.val (.ref a), .val (.ref b), .val (.int (Int32.ofNat o)), .val (.int (Int32.ofNat len)), .val .null, .unset] [.ref s.heap.size])) := g8
  have c10 : Steps p.tables e below (s₁.setTop (entryFrame m #[.ref a, .ref b, .int (Int32.ofNat o), .int (Int32.ofNat len), .null] 6)) (T8.setTop (mkF m 45 #[.val (.ref a), .val (.ref b), .val (.int (Int32.ofNat o)), .val (.int (Int32.ofNat len)), .val .null, .val (.ref s.heap.size)] [.int (Int32.ofNat N.slots.size), .ref s.heap.size, .ref a])) := by
    have hc : Steps p.tables e below (s₁.setTop (entryFrame m #[.ref a, .ref b, .int (Int32.ofNat o), .int (Int32.ofNat len), .null] 6)) (T8.setTop (mkF m 45 #[.val (.ref a), .val (.ref b), .val (.int (Int32.ofNat o)), .val (.int (Int32.ofNat len)), .val .null, .val (.ref s.heap.size)] [.int (Int32.ofNat len), .ref s.heap.size, .ref a])) := c9.trans (by
      refine XS.astore X8.here hexec rfl (hb hbytes d39) rfl rfl rfl ?_
      refine XS.aloadN X8.here hexec rfl (hb hbytes d41) rfl rfl ?_
      refine XS.aload X8.here hexec rfl (hb hbytes d42) rfl rfl ?_
      refine XS.iloadN X8.here hexec rfl (hb hbytes d44) rfl ?_
      exact Steps.refl _)
    rw [n4]; exact hc
  obtain ⟨v11, T11, X11, E11, g11⟩ := X8.callS hexec (CodL.law l s.heap.size N) hown (wks W (staticW "java/lang/String" 47 CodL.yN)) (wk W CodL.tab) (W := 1) (Nat.le_of_ble_eq_true rfl) (Nat.le_of_ble_eq_true rfl) (Nat.le_refl _) (by show 0 + len + 0 ≤ len; omega) (g := (mkF m 45 #[.val (.ref a), .val (.ref b), .val (.int (Int32.ofNat o)), .val (.int (Int32.ofNat len)), .val .null, .val (.ref s.heap.size)] [.int (Int32.ofNat N.slots.size), .ref s.heap.size, .ref a])) rfl (by rw [hml]; rfl) c10 (argsL := [.ref s.heap.size, .int (Int32.ofNat N.slots.size)]) (rest := [.ref a]) rfl rfl (by show 2 * 0 + (1 + 0) ≤ _; decide) (hb hbytes d45) (⟨rfl, n1⟩)
  obtain ⟨rfl, q11⟩ := E11
  have hB11 := hB1.mv (X8.warmed.alike.symm.trans X11.warmed.alike) q11
  have c12 : Steps p.tables e below (s₁.setTop (entryFrame m #[.ref a, .ref b, .int (Int32.ofNat o), .int (Int32.ofNat len), .null] 6)) (T11.setTop (mkF m 48 #[.val (.ref a), .val (.ref b), .val (.int (Int32.ofNat o)), .val (.int (Int32.ofNat len)), .val .null, .val (.ref s.heap.size)] [.int 0, .ref a])) := g11
  obtain ⟨T13, X13, p13, bl13, sl13, st13⟩ := X11.finit hexec hown (wk W (.fieldLink "java/lang/String" 15 "java/lang/String" "coder" "B")) (Or.inr ⟨_, (wk W (.laysFinal "java/lang/String" "java/lang/String" "coder" "B"))⟩) (Or.inl ⟨rfl, hnm⟩) f2 (Or.inl rfl) hB11 (t := .byte) (by decide +kernel) rfl (g := (mkF m 48 #[.val (.ref a), .val (.ref b), .val (.int (Int32.ofNat o)), .val (.int (Int32.ofNat len)), .val .null, .val (.ref s.heap.size)] [.int 0, .ref a])) rfl (rest := []) rfl (hb hbytes d48)
  have c14 : Steps p.tables e below (s₁.setTop (entryFrame m #[.ref a, .ref b, .int (Int32.ofNat o), .int (Int32.ofNat len), .null] 6)) (T13.setTop (mkF m 54 #[.val (.ref a), .val (.ref b), .val (.int (Int32.ofNat o)), .val (.int (Int32.ofNat len)), .val .null, .val (.ref s.heap.size)] [.ref s.heap.size, .ref a])) := (c12.trans (st13 _ (Steps.refl _))).trans (by
    refine XS.aloadN X13.here hexec rfl (hb hbytes d51) rfl rfl ?_
    refine XS.aload X13.here hexec rfl (hb hbytes d52) rfl rfl ?_
    exact Steps.refl _)
  obtain ⟨T15, X15, p15, bl15, sl15, st15⟩ := X13.finit hexec hown (wk W (.fieldLink "java/lang/String" 9 "java/lang/String" "value" "[B")) (Or.inr ⟨_, (wk W (.laysFinal "java/lang/String" "java/lang/String" "value" "[B"))⟩) (Or.inl ⟨rfl, hnm⟩) f1 (Or.inl rfl) bl13 (t := (.array .byte)) (by decide +kernel) rfl (g := (mkF m 54 #[.val (.ref a), .val (.ref b), .val (.int (Int32.ofNat o)), .val (.int (Int32.ofNat len)), .val .null, .val (.ref s.heap.size)] [.ref s.heap.size, .ref a])) rfl (rest := []) rfl (hb hbytes d54)
  have c16 : Steps p.tables e below (s₁.setTop (entryFrame m #[.ref a, .ref b, .int (Int32.ofNat o), .int (Int32.ofNat len), .null] 6)) (T15.setTop (mkF m 57 #[.val (.ref a), .val (.ref b), .val (.int (Int32.ofNat o)), .val (.int (Int32.ofNat len)), .val .null, .val (.ref s.heap.size)] [])) := c14.trans (st15 _ (Steps.refl _))
  have ap := apart (Or.inr ⟨_, (wk W (.laysFinal "java/lang/String" "java/lang/String" "value" "[B"))⟩) (Or.inr ⟨_, (wk W (.laysFinal "java/lang/String" "java/lang/String" "coder" "B"))⟩) f1 f2 (t₁ := .array .byte) (t₂ := .byte) (by decide +kernel) (by decide +kernel) (by decide)
  have al := X8.warmed.alike.symm.trans X15.warmed.alike
  have n7 : T11.heap[s.heap.size]? = some N := by rw [q11]; exact n1.1
  exact ⟨T15, none, _, _, _, X15, by simp, rfl, by omega, (fun _ => rfl), ⟨rfl, _, N, bl15, ((Same.refl D _).set _ (by simp)).set _ (by simp), sl15, (Cell.slots_setSlot_ne _ ap).trans sl13, n1.keep al (p15.other hne (p13.other hne n7)), n2, by rw [al.findClass]; exact n3, n4, n5, fun y c h1 h2 => p15.other h1 (p13.other h1 (by rw [q11]; exact n6 y c h2)), by rw [p15.2.2, p13.2.2, q11]; exact z8⟩, fun fs hl => c16.trans (X15.returnOut hexec hret (hb hbytes d57) hl)⟩
end New4
namespace New1
def yN : MethodName := ⟨"java/lang/String", "<init>", "([C)V"⟩
abbrev yB : ByteArray := jdk_42_method_3_code
theorem d0 : decode yB 0 = .ok (.aload_n 0, 1) := by decide +kernel
theorem d1 : decode yB 1 = .ok (.aload_n 1, 1) := by decide +kernel
theorem d2 : decode yB 2 = .ok (.iconst 0, 1) := by decide +kernel
theorem d3 : decode yB 3 = .ok (.aload_n 1, 1) := by decide +kernel
theorem d4 : decode yB 4 = .ok (.arraylength, 1) := by decide +kernel
theorem d5 : decode yB 5 = .ok (.aconst_null, 1) := by decide +kernel
theorem d6 : decode yB 6 = .ok (.invokespecial 27, 3) := by decide +kernel
theorem d9 : decode yB 9 = .ok (.return_, 1) := by decide +kernel
def site : List Cond := [New4.tab] ++ initW "java/lang/String" 27 New4.yN
def tab : Cond := tabOf yN yB 2 none site
def P (a : Addr) (D : Cell) (fV fC : Field) (b : Addr) (A : Cell) (z : Int32) (args : Array Value) (s : State) : Prop := args = #[.ref a, .ref b] ∧ Blank "java/lang/String" a D s ∧ Found "java/lang/String" "value" "[B" fV s ∧ Found "java/lang/String" "coder" "B" fC s ∧ Ch b A s ∧ StaticIs s "java/lang/String" "COMPACT_STRINGS" "Z" (.int z) ∧ ¬ z = 0 ∧ 0 < A.slots.size ∧ A.slots.size ≤ 536870912 ∧ ∀ i, i < A.slots.size → ¬ 255 < cv A i
def E (a : Addr) (D : Cell) (fV fC : Field) (A : Cell) (r : Option Value) (s u : State) : Prop := Got a D fV fC A 0 A.slots.size r s u
/-- new String(chars), not empty, no char above 255: a Latin-1 String of their low bytes -/
theorem law (l : Launch) (a : Addr) (D : Cell) (fV fC : Field) (b : Addr) (A : Cell) (z : Int32) : Law l yN 2 1 3 52 yB 2 none site (P a D fV fC b A z) (E a D fV fC A) [⟨a, fC.slot⟩, ⟨a, fV.slot⟩] 1 A.slots.size := by
  refine Law.of_walk (plainFor_of_name (by decide +kernel)) (by decide +kernel) (by decide +kernel) (by decide) (fun _ _ h => by rw [h.1]; rfl) (fun _ U U' hal hh h => ⟨h.1, h.2.1.mv hal hh, h.2.2.1.al hal, h.2.2.2.1.al hal, h.2.2.2.2.1.mv hal hh, h.2.2.2.2.2.1.there hal hh, h.2.2.2.2.2.2⟩) (fun r U U' V V' h1 hal h2 h => Got.mv r U U' V V' h1 hal h2 h) ?_
  intro p e s m args below meth c s₁ X0 hexec hbytes hml hret hlk hnm hown hh0 W hP
  obtain ⟨rfl, hB, f1, f2, hA, s1, hz, l0, l2, hp⟩ := hP
  have c1 : Steps p.tables e below (s₁.setTop (entryFrame m #[.ref a, .ref b] 2)) (s₁.setTop (mkF m 0 #[.val (.ref a), .val (.ref b)] [])) := entry rfl
  have c2 : Steps p.tables e below (s₁.setTop (entryFrame m #[.ref a, .ref b] 2)) (s₁.setTop (mkF m 6 #[.val (.ref a), .val (.ref b)] [.null, .int (Int32.ofNat A.slots.size), .int 0, .ref b, .ref a])) := c1.trans (by
    refine XS.aloadN X0.here hexec rfl (hb hbytes d0) rfl rfl ?_
    refine XS.aloadN X0.here hexec rfl (hb hbytes d1) rfl rfl ?_
    refine iconstV X0.here hexec rfl 0 (hb hbytes d2) (by decide) ?_
    refine XS.aloadN X0.here hexec rfl (hb hbytes d3) rfl rfl ?_
    refine X0.alen hexec (hA.1.mv X0.warmed.alike hh0) rfl rfl (hb hbytes d4) ?_
    refine XS.aconstNull X0.here hexec rfl (hb hbytes d5) ?_
    exact Steps.refl _)
  obtain ⟨v3, T3, X3, E3, g3⟩ := X0.callN hexec (New4.law l a D fV fC b A z 0 A.slots.size) rfl hown (wks W (initW "java/lang/String" 27 New4.yN)) (W New4.tab (by simp only [site, List.mem_cons, List.mem_append, true_or, or_true])) (W := 0) (Nat.le_of_ble_eq_true rfl) (Nat.le_of_ble_eq_true rfl) (Nat.le_refl _) (by show 0 + A.slots.size ≤ A.slots.size; omega) (g := (mkF m 6 #[.val (.ref a), .val (.ref b)] [.null, .int (Int32.ofNat A.slots.size), .int (Int32.ofNat 0), .ref b, .ref a])) rfl (by rw [hml]; rfl) c2 (argsL := [.ref b, .int (Int32.ofNat 0), .int (Int32.ofNat A.slots.size), .null]) (rest := []) rfl rfl (by show 2 * 0 + 0 ≤ _; decide) (hb hbytes d6) (⟨rfl, hB.mv X0.warmed.alike hh0, f1.al X0.warmed.alike, f2.al X0.warmed.alike, hA.mv X0.warmed.alike hh0, s1.there X0.warmed.alike hh0, hz, l0, by omega, l2, fun i hi => by rw [Nat.zero_add]; exact hp i hi⟩)
  have e0 := Got.mv _ s₁ s _ _ hh0.symm (Vm.Alike.refl _) rfl E3
  obtain rfl := e0.1
  have c4 : Steps p.tables e below (s₁.setTop (entryFrame m #[.ref a, .ref b] 2)) (T3.setTop (mkF m 9 #[.val (.ref a), .val (.ref b)] [])) := g3
  exact ⟨T3, none, _, _, _, X3, by simp, rfl, by omega, (fun _ => rfl), e0, fun fs hl => c4.trans (X3.returnOut hexec hret (hb hbytes d9) hl)⟩
theorem pays {l : Launch} {R : Room} {p : Program} {e : Env} {below : List Frame} {s : State} {sargs : Array Value} {len W : Nat} (a : Addr) (D : Cell) (fV fC : Field) (b : Addr) (A : Cell) (z : Int32) (htab : tab.before sargs s = true) (hfr : 4 ≤ R.frames) (hlo : W + 65 ≤ R.locals) :
    Back l R p e below s sargs yN len W (fun A₁ a₁ => A₁.cells + 1 ≤ R.cells ∧ A₁.slots + A.slots.size ≤ R.slots ∧ P a D fV fC b A z a₁ A₁.U) (fun A₁ _ v₁ B₁ => E a D fV fC A v₁ A₁.U B₁.U ∧ B₁.locs = A₁.locs ++ [⟨a, fC.slot⟩, ⟨a, fV.slot⟩] ∧ B₁.cells = A₁.cells + 1 ∧ B₁.slots = A₁.slots + A.slots.size) :=
  (law l a D fV fC b A z).pays htab hfr (by omega)
end New1
/-- the byte, read back as charAt reads it, is the char -/
theorem lo8_mask {x : Int32} (h0 : ¬ x < 0) (h1 : ¬ 255 < x) : lo8 x &&& 255 = x := by
  have t : ∀ k : Fin 256, lo8 (Int32.ofNat k.val) &&& 255 = Int32.ofNat k.val := by decide +kernel
  rw [Int32.lt_iff_toInt_lt] at h0 h1
  have e0 : (0 : Int32).toInt = 0 := rfl
  have e1 : (255 : Int32).toInt = 255 := rfl
  obtain ⟨k, hk⟩ : ∃ k : Nat, x.toInt = k := ⟨x.toInt.toNat, by omega⟩
  have hx : x = Int32.ofNat k := Int32.toInt_inj.mp (by rw [hk, Int32.toInt_ofNat_small (by omega)])
  rw [hx]
  exact t ⟨k, by omega⟩
end StrChars
namespace StrChars.Road
open Jvm Sem ClassFile Op Lib Jvm.Stand Jvm.Free Jvm.Free.XT
open Jvm.Lib.Cold (StaticIs)
abbrev ST : String := "java/lang/String"
/-- every table word that New1's law asks, flat -/
abbrev words : List Jvm.Cond := [.code New1.yN New1.yB 2 none, .initialized ST, .methodLink ST 27 New4.yN, .instanceMethod New4.yN,
  .code New4.yN New4.yB 6 none, .fieldLink ST 38 ST "COMPACT_STRINGS" "Z", .laysFinal ST ST "value" "[B", .fieldLink ST 9 ST "value" "[B", .laysFinal ST ST "coder" "B", .fieldLink ST 15 ST "coder" "B",
  .methodLink ST 1 Lib.objectInit, .instanceMethod Lib.objectInit, .code Lib.objectInit ⟨#[0xb1]⟩ 1 none, .methodLink ST 177 Cmp3.yN, .static Cmp3.yN, .methodLink ST 47 CodL.yN, .static CodL.yN,
  .code Cmp3.yN Cmp3.yB 6 (some (.array .byte)), .initialized U16, .arrayClass .byte, .methodLink U16 115 Cmp5.yN, .static Cmp5.yN, .code Cmp5.yN Cmp5.yB 7 (some .int), .code CodL.yN CodL.yB 2 (some .byte)]
theorem tab_of {a : Array Value} {s : State} (h : ∀ w ∈ words, w.before a s = true) : New1.tab.before a s = true := by
  have h5 : Cmp5.tab.before a s = true := unparts (wk h (.code Cmp5.yN Cmp5.yB 7 (some .int))) (wks h (.initialized Cmp5.yN.cls :: Cmp5.site))
  have hc : CodL.tab.before a s = true := unparts (wk h (.code CodL.yN CodL.yB 2 (some .byte))) (wks h (.initialized CodL.yN.cls :: CodL.site))
  have q5 : ∀ w ∈ Cmp5.tab :: words, w.before a s = true := fun w hw => (List.mem_cons.mp hw).elim (fun e => e ▸ h5) (h w)
  have h3 : Cmp3.tab.before a s = true := unparts (wk q5 (.code Cmp3.yN Cmp3.yB 6 (some (.array .byte)))) (wks q5 (.initialized Cmp3.yN.cls :: Cmp3.site))
  have q3 : ∀ w ∈ Cmp3.tab :: CodL.tab :: words, w.before a s = true := fun w hw => (List.mem_cons.mp hw).elim (fun e => e ▸ h3) fun hw => (List.mem_cons.mp hw).elim (fun e => e ▸ hc) (h w)
  have h4 : New4.tab.before a s = true := unparts (wk q3 (.code New4.yN New4.yB 6 none)) (wks q3 (.initialized New4.yN.cls :: New4.site))
  have q4 : ∀ w ∈ New4.tab :: words, w.before a s = true := fun w hw => (List.mem_cons.mp hw).elim (fun e => e ▸ h4) (h w)
  exact unparts (wk q4 (.code New1.yN New1.yB 2 none)) (wks q4 (.initialized New1.yN.cls :: New1.site))
/-- the words ride from the start Z to the walk's own state -/
theorem moved {Z s : State} {a0 args : Array Value} (hZ : Z.Warmed39 s.vm) (hw : ∀ d ∈ words, d.before a0 Z = true) : ∀ d ∈ words, d.before args s = true := fun d hd => by
  have q := hw d hd
  have t : ∀ d ∈ words, d = .arrayClass .byte ∨ (d.onTables && d.keepsFace) = true := by decide +kernel
  rcases t d hd with rfl | t
  · exact RoadKit.mvA hZ q
  · exact RoadKit.mv hZ q t
/-- WHAT COMES BACK, over the tables of the start Z: h the heap at the call, h' behind it -/
def Q (Z : State) (x : Addr) (A : Cell) (h : Heap) (v : Option Value) (h' : Heap) (L : List Loc) : Prop := v = none ∧ (∀ y ∈ L, y.base = x) ∧ RoadKit.Keep h h' [x] ∧ h'.size = h.size + 1 ∧ RoadKit.Exa Z h' x ST ∧ RoadKit.Fld Z h' x ST "value" "[B" (.ref h.size) ∧ RoadKit.Fld Z h' x ST "coder" "B" (.int 0) ∧
  (∃ V : Cell, RoadKit.Arr Z h' h.size V .byte ∧ V.vm = .none ∧ Z.vm.findClass "[B" = some V.cls ∧ V.slots.size = A.slots.size ∧ ∀ j, j < A.slots.size → V.slots[j]? = some (.int (lo8 (cv A j)))) ∧
  ∀ (O n d : String) (w : Value), RoadKit.Fld Z h x O n d w → RoadKit.slotOf Z O n d ≠ RoadKit.slotOf Z ST "value" "[B" → RoadKit.slotOf Z O n d ≠ RoadKit.slotOf Z ST "coder" "B" → RoadKit.Fld Z h' x O n d w
/-- **new String(chars) AT A CALL, IN THE ROAD'S FORM**: for specialBack behind newO: x the fresh String, b the char[] with the cell A -/
theorem back {p : Program} {l : Launch} {e : Env} {R : Room} {s : State} {args : Array Value} {below : List Frame} {len W : Nat} {Z : State} {a0 : Array Value} {h : Heap} (hZ : Z.Warmed39 s.vm) (hw : ∀ d ∈ words, d.before a0 Z = true) {kI : Nat} (wi : (Jvm.Cond.instantiable ST kI).before a0 Z = true)
    {x b : Addr} {A : Cell} {z : Int32} {v0 c0 : Value} (E : RoadKit.Exa Z h x ST) (V : RoadKit.Fld Z h x ST "value" "[B" v0) (C : RoadKit.Fld Z h x ST "coder" "B" c0) (K : RoadKit.Arr Z h b A .char) (hty : Typed .char A) (S : RoadKit.Sta Z h ST "COMPACT_STRINGS" "Z" (.int z)) (hz : ¬ z = 0)
    (l0 : 0 < A.slots.size) (l2 : A.slots.size ≤ 536870912) (hp : ∀ i, i < A.slots.size → ¬ 255 < cv A i) (hfr : 4 ≤ R.frames) (hlo : W + 65 ≤ R.locals) :
    Back l R p e below s args New1.yN len W (fun P a => a = #[.ref x, .ref b] ∧ P.U.heap = h ∧ P.cells + 1 ≤ R.cells ∧ P.slots + A.slots.size ≤ R.slots)
      (fun P _ v B => ∃ L, Q Z x A h v B.U.heap L ∧ B.locs = P.locs ++ L ∧ B.cells = P.cells + 1 ∧ B.slots = P.slots + A.slots.size) := by
  intro m meth c P g ig mk a X hg hsize hdg hW hn hp'
  obtain ⟨rfl, rfl, r1, r2⟩ := hp'
  have al : Z.vm.Alike P.U.vm := hZ.alike.trans X.warmed.alike
  obtain ⟨D, cfV, kV, iV, fV, hD, gV, stV, knV, obV, asV, slV⟩ := id V
  obtain ⟨D', cfC, kC, iC, fC, hD', gC, stC, -, -, asC, slC⟩ := id C
  cases hD.symm.trans hD'
  obtain ⟨D2, kD, e1, e2, e3, e4, e5⟩ := id E
  cases hD.symm.trans e1
  obtain ⟨c2, k2, i1, i2, i3, -⟩ := Cond.instantiable_spec wi
  cases e2.symm.trans i1
  cases e3.symm.trans i2
  obtain ⟨kU, u1, u2⟩ := al.2.2 _ _ e3
  have hB : Blank ST x D P.U := ⟨hD, ⟨knV, fun q hq => by rw [hq] at obV; cases obV⟩, by rw [al.findClass]; exact e2, kU, u1, by rw [u2]; exact i3, by rw [u2]; exact e5 i3⟩
  have F1 : Found ST "value" "[B" fV P.U := ⟨SBG.found_only al ⟨cfV, kV, iV, gV⟩, stV⟩
  have F2 : Found ST "coder" "B" fC P.U := ⟨SBG.found_only al ⟨cfC, kC, iC, gC⟩, stC⟩
  have hA : Ch b A P.U := ⟨⟨K.1, State.isArrayOf_alike al K.2.1, K.2.2, by omega⟩, hty⟩
  have hS : StaticIs P.U ST "COMPACT_STRINGS" "Z" (.int z) := by
    obtain ⟨cfS, iS, kS, fS, st, cS, t1, t2, t3, t4, t5, t6, t7⟩ := S
    exact StaticIs.there (s := { Z with heap := P.U.heap }) ⟨cfS, iS, kS, fS, st, cS, t1, t2, t3, t4, t5, (fun q => by rw [q] at t6; cases t6), t7⟩ al rfl
  obtain ⟨v, B, X', ⟨⟨hv, E', V', q1, q2, q3, q4, q5, q6, q7, q8, q9, q10, q11⟩, hl, hc, hs⟩, st⟩ := New1.pays x D fV fC b A z (tab_of (moved hZ hw)) hfr hlo m meth c P g ig mk _ X hg hsize hdg hW hn ⟨r1, r2, rfl, hB, F1, F2, hA, hS, hz, l0, l2, hp⟩
  have al' : Z.vm.Alike B.U.vm := hZ.alike.trans X'.warmed.alike
  have hsz : E'.slots.size = D.slots.size := by
    obtain ⟨-, -, -, kB, w1, w2, w3⟩ := q1
    obtain ⟨kB', y1, y2⟩ := al'.2.2 _ _ e3
    rw [q2.2.1] at w1
    cases w1.symm.trans y1
    rw [w3, e5 i3, y2]
  refine ⟨v, B, X', ⟨_, ⟨hv, ?_, ⟨by omega, fun y cy hy hn' => q10 y cy (by simpa using hn') hy, fun y cy hy => ?_⟩, q11, ⟨E', _, q1.1, by rw [q2.2.1]; exact e2, by rw [q2.2.1]; exact e3, by rw [q2.1]; exact obV, fun _ => by rw [hsz]; exact e5 i3⟩,
    ⟨E', cfV, kV, iV, fV, q1.1, gV, stV, by rw [q2.1]; exact knV, by rw [q2.1]; exact obV, by rw [q2.2.1]; exact asV, q3⟩, ⟨E', cfC, kC, iC, fC, q1.1, gC, stC, by rw [q2.1]; exact knV, by rw [q2.1]; exact obV, by rw [q2.2.1]; exact asC, q4⟩,
    ⟨V', ⟨q5.1, State.isArrayOf_alike al'.symm q5.2.1, q5.2.2.1⟩, q6, by rw [← al'.findClass]; exact q7, q8, fun j hj => by have := q9 j hj; rwa [Nat.zero_add] at this⟩, fun O n d w F n1 n2 => ?_⟩, hl, hc, hs⟩, st⟩
  · intro y hy
    simp only [List.mem_cons, List.not_mem_nil, or_false] at hy
    rcases hy with rfl | rfl <;> rfl
  · by_cases q : y = x
    · subst q
      cases hD.symm.trans hy
      exact ⟨E', q1.1, q2.2.1, q2.1, hsz⟩
    · exact ⟨cy, q10 y cy q hy, rfl, rfl, rfl⟩
  · obtain ⟨D3, cf, k, i, f, g1, g2, g3, g4, g5, g6, g7⟩ := F
    cases hD.symm.trans g1
    simp only [RoadKit.slotOf, g2, gV, gC, Option.map_some, Option.getD_some] at n1 n2
    exact ⟨E', cf, k, i, f, q1.1, g2, g3, by rw [q2.1]; exact g4, by rw [q2.1]; exact g5, by rw [q2.2.1]; exact g6, by rw [q2.2.2 f.slot (by simp [n1, n2])]; exact g7⟩
end StrChars.Road
namespace StrChars.Road
open Jvm Sem ClassFile Op Lib Jvm.Stand Jvm.Free Jvm.Free.XT
/-- WHAT COMES BACK, the byte[] as a list of values -/
def QA (Z : State) (x : Addr) (zn : Int32) (cs : List Int32) (h : Heap) (v : Option Value) (h' : Heap) (L : List Loc) : Prop := v = none ∧ (∀ y ∈ L, y.base = x) ∧ RoadKit.Keep h h' [x] ∧ h'.size = h.size + 1 ∧ RoadKit.Exa Z h' x ST ∧ RoadKit.Fld Z h' x ST "value" "[B" (.ref h.size) ∧ RoadKit.Fld Z h' x ST "coder" "B" (.int 0) ∧
  (∃ kb, Z.vm.findClass "[B" = some kb ∧ RoadKit.Arv Z h' h.size kb .byte zn (cs.map fun c => .int (lo8 c)) (.int 0)) ∧
  ∀ (O n d : String) (w : Value), RoadKit.Fld Z h x O n d w → RoadKit.slotOf Z O n d ≠ RoadKit.slotOf Z ST "value" "[B" → RoadKit.slotOf Z O n d ≠ RoadKit.slotOf Z ST "coder" "B" → RoadKit.Fld Z h' x O n d w
/-- **new String(chars) AT A CALL, THE ARRAYS AS LISTS**: the char[] at b holds cs, not empty, no char above 255 -/
theorem backArv {p : Program} {l : Launch} {e : Env} {R : Room} {s : State} {args : Array Value} {below : List Frame} {len W : Nat} {Z : State} {a0 : Array Value} {h : Heap} (hZ : Z.Warmed39 s.vm) (hw : ∀ d ∈ words, d.before a0 Z = true) {kI : Nat} (wi : (Jvm.Cond.instantiable ST kI).before a0 Z = true)
    {x b : Addr} {k : ClassId} {zn z : Int32} {cs : List Int32} {dv v0 c0 : Value} (E : RoadKit.Exa Z h x ST) (V : RoadKit.Fld Z h x ST "value" "[B" v0) (C : RoadKit.Fld Z h x ST "coder" "B" c0) (K : RoadKit.Arv Z h b k .char zn (cs.map Value.int) dv) (S : RoadKit.Sta Z h ST "COMPACT_STRINGS" "Z" (.int z)) (hz : ¬ z = 0)
    (hlen : zn.toNatClampNeg = cs.length) (h0 : 0 < cs.length) (hbig : cs.length ≤ 536870912) (hall : ∀ c ∈ cs, ¬ 255 < c) (hfr : 4 ≤ R.frames) (hlo : W + 65 ≤ R.locals) :
    Back l R p e below s args New1.yN len W (fun P a => a = #[.ref x, .ref b] ∧ P.U.heap = h ∧ P.cells + 1 ≤ R.cells ∧ P.slots + cs.length ≤ R.slots)
      (fun P _ v B => ∃ L, QA Z x zn cs h v B.U.heap L ∧ B.locs = P.locs ++ L ∧ B.cells = P.cells + 1 ∧ B.slots = P.slots + cs.length) := by
  obtain ⟨A, K1, K2, K3, K4, K5, K6⟩ := K
  have e : A.slots.size = cs.length := K3.trans hlen
  have hat : ∀ (i : Nat) (hi : i < cs.length), A.slots[i]? = some (.int cs[i]) := fun i hi => by rw [K5 i (by omega)]; simp [List.getD_eq_getElem?_getD, hi]
  have hcv : ∀ (i : Nat) (hi : i < cs.length), cv A i = cs[i] := fun i hi => by unfold cv; rw [hat i hi]
  have hty : Typed .char A := fun i v hv => by
    have hi : i < A.slots.size := (Array.getElem?_eq_some_iff.mp hv).1
    have q := K5 i hi
    rw [hv] at q
    rw [Option.some.inj q]
    exact K6 i hi
  refine Back.mono (back hZ hw wi E V C K1 hty S hz (by omega) (by omega) (fun i hi => by rw [hcv i (by omega)]; exact hall _ (List.getElem_mem _)) hfr hlo) (fun P a hp => ⟨hp.1, hp.2.1, hp.2.2.1, by rw [e]; exact hp.2.2.2⟩) (fun P a v B hp hq => ?_)
  obtain ⟨L, ⟨q1, q2, q3, q4, q5, q6, q7, ⟨V', v1, v2, v3, v4, v5⟩, q9⟩, hl, hc, hs⟩ := hq
  refine ⟨L, ⟨q1, q2, q3, q4, q5, q6, q7, ⟨V'.cls, v3, V', v1, rfl, by rw [v4, e, hlen], K4, fun i hi => ?_, fun i hi => ?_⟩, q9⟩, hl, hc, by rw [hs, e]⟩
  · have hi' : i < cs.length := by omega
    rw [v5 i (by omega), hcv i hi']; simp [List.getD_eq_getElem?_getD, hi']
  · have hi' : i < cs.length := by omega
    simp only [List.getD_eq_getElem?_getD, List.getElem?_map, List.getElem?_eq_getElem hi', Option.map_some, Option.getD_some]
    exact fits_lo8 _
end StrChars.Road
namespace StrChars.Road
open Jvm Sem ClassFile Op Lib Jvm.Stand Jvm.Free Jvm.Free.XT
/-- WHAT COMES BACK, in the writer's own shape -/
def QV (Z : State) (x : Addr) (N : Int32) (bs : List Int32) (h : Heap) (n0 : Nat) (v : Option Value) (h' : Heap) (L : List Loc) : Prop := v = none ∧ RoadKit.Fr n0 L ∧ RoadKit.Keep h h' [x] ∧ RoadKit.Exa Z h' x ST ∧ RoadKit.Fld Z h' x ST "coder" "B" (.int 0) ∧
  ∃ (t : Addr) (kb : ClassId), n0 ≤ t ∧ h.size ≤ t ∧ ¬ t = x ∧ RoadKit.Fld Z h' x ST "value" "[B" (.ref t) ∧ RoadKit.Arv Z h' t kb .byte N (bs.map Value.int) (.int 0)
/-- **new String(chars) AT A CALL, FOR THE WRITER**: a char[] of n known ints, each 0 to 255 -/
theorem backV {p : Program} {l : Launch} {e : Env} {R : Room} {s : State} {args : Array Value} {below : List Frame} {len W : Nat} {Z : State} {a0 : Array Value} {h : Heap} (hZ : Z.Warmed39 s.vm) (hw : ∀ d ∈ words, d.before a0 Z = true) {kI : Nat} (wi : (Jvm.Cond.instantiable ST kI).before a0 Z = true)
    {x b : Addr} {kC : ClassId} {cs bs : List Int32} {d v0 c0 : Value} {z N : Int32} {n n0 : Nat} (hx0 : n0 ≤ x) (hh0 : n0 ≤ h.size) (E : RoadKit.Exa Z h x ST) (V : RoadKit.Fld Z h x ST "value" "[B" v0) (C : RoadKit.Fld Z h x ST "coder" "B" c0) (K : RoadKit.Arv Z h b kC .char N (cs.map Value.int) d) (S : RoadKit.Sta Z h ST "COMPACT_STRINGS" "Z" (.int z)) (hz : ¬ z = 0)
    (hn : cs.length = n) (hN : N = Int32.ofNat n) (l0 : 0 < n) (l2 : n ≤ 4000) (hp : ∀ c ∈ cs, ¬ c < 0 ∧ ¬ (255 : Int32) < c) (hb : bs = cs.map (fun c => c.toInt8.toInt32)) (hfr : 4 ≤ R.frames) (hlo : W + 65 ≤ R.locals) :
    Back l R p e below s args (⟨"java/lang/String", "<init>", "([C)V"⟩ : MethodName) len W (fun P a => a = #[.ref x, .ref b] ∧ P.U.heap = h ∧ P.cells + 1 ≤ R.cells ∧ P.slots + n ≤ R.slots)
      (fun P _ v B => ∃ L, QV Z x N bs h n0 v B.U.heap L ∧ B.locs = P.locs ++ L ∧ B.cells = P.cells + 1 ∧ B.slots = P.slots + n) := by
  subst hn hN hb
  refine Back.mono (backArv hZ hw wi E V C K S hz (n32 (by omega)) l0 (by omega) (fun c hc => (hp c hc).2) hfr hlo) (fun P a hp => hp) (fun P a v B hp hq => ?_)
  obtain ⟨L, ⟨q1, q2, q3, q4, q5, q6, q7, ⟨kb, v1, v2⟩, q9⟩, hl, hc, hs⟩ := hq
  exact ⟨L, ⟨q1, fun y hy => by rw [q2 y hy]; exact hx0, q3, q5, q7, h.size, kb, hh0, Nat.le_refl _, Nat.ne_of_gt E.lt, q6, by rw [List.map_map]; exact v2⟩, hl, hc, hs⟩
end StrChars.Road
namespace StrChars
open Jvm Sem ClassFile Op Lib Jvm.Stand Jvm.Free.XT Jvm.Free.ALB Jvm.Free.JM Jvm.Free
open Jvm.Lib.Cold (StaticIs)
def hi8 (x : Int32) : Int32 := lo8 (x >>> ((8 : Int32) &&& 31))
/-- what StringUTF16.getChar makes of two bytes -/
def pairCh (u v : Int32) : Int32 := (((u &&& 255) <<< ((0 : Int32) &&& 31)) ||| ((v &&& 255) <<< ((8 : Int32) &&& 31))).toUInt32.toUInt16.toUInt32.toInt32
theorem shr0 (c : Int32) : c >>> ((0 : Int32) &&& 31) = c := by
  have e : ((0 : Int32) &&& 31) = 0 := by decide
  rw [e]
  apply Int32.toBitVec_inj.mp
  rw [Int32.toBitVec_shiftRight]
  have e1 : ((0 : Int32).toBitVec.smod 32) = 0#32 := by decide
  rw [e1, BitVec.sshiftRight_eq']
  exact BitVec.sshiftRight_zero
theorem lo8_and (x : Int32) : (lo8 x &&& 255).toBitVec.toNat = x.toBitVec.toNat % 256 := by
  have h : (lo8 x).toBitVec = (x.toBitVec.signExtend 8).signExtend 32 := by rw [lo8, Int8.toBitVec_toInt32, Int32.toBitVec_toInt8]
  rw [Int32.toBitVec_and, BitVec.toNat_and, h]
  have e : ((x.toBitVec.signExtend 8).signExtend 32).toNat % 256 = x.toBitVec.toNat % 256 := by
    rw [BitVec.toNat_signExtend]
    have hlt := x.toBitVec.isLt
    simp only [BitVec.toNat_setWidth, BitVec.toNat_signExtend]
    split <;> split <;> omega
  rw [← e]
  exact Nat.and_two_pow_sub_one_eq_mod _ 8
theorem pair_says {c : Int32} (h0 : ¬ c < 0) (h1 : ¬ 65535 < c) : pairCh (lo8 c) (hi8 c) = c := by
  rw [Int32.lt_iff_toInt_lt] at h0 h1
  have e0 : (0 : Int32).toInt = 0 := rfl
  have e1 : (65535 : Int32).toInt = 65535 := rfl
  have hc : c.toInt = c.toBitVec.toNat := by
    have := c.toBitVec.isLt
    have e : c.toInt = c.toBitVec.toInt := rfl
    rw [e] at h0 h1
    rw [e]
    rw [BitVec.toInt_eq_toNat_cond] at h0 h1 ⊢
    split at h0 <;> split <;> omega
  have hn : c.toBitVec.toNat < 65536 := by omega
  have a1 := lo8_and c
  have a2 : (hi8 c &&& 255).toBitVec.toNat = c.toBitVec.toNat / 256 := by
    rw [hi8, lo8_and]
    have e : ((8 : Int32) &&& 31) = 8 := by decide
    rw [e, Int32.toBitVec_shiftRight]
    have e2 : ((8 : Int32).toBitVec.smod 32) = 8#32 := by decide
    rw [e2, BitVec.sshiftRight_eq', BitVec.toNat_sshiftRight_of_msb_false (by rw [BitVec.msb_eq_false_iff_two_mul_lt]; omega)]
    show c.toBitVec.toNat >>> 8 % 256 = _
    rw [Nat.shiftRight_eq_div_pow]
    omega
  unfold pairCh
  apply Int32.toBitVec_inj.mp
  apply BitVec.eq_of_toNat_eq
  have f0 : ((0 : Int32) &&& 31) = 0 := by decide
  have f8 : ((8 : Int32) &&& 31) = 8 := by decide
  rw [f0, f8]
  have g : (((lo8 c &&& 255) <<< (0 : Int32)) ||| ((hi8 c &&& 255) <<< (8 : Int32))).toBitVec.toNat = c.toBitVec.toNat := by
    rw [Int32.toBitVec_or, Int32.toBitVec_shiftLeft, Int32.toBitVec_shiftLeft]
    have s0 : ((0 : Int32).toBitVec.smod 32) = 0#32 := by decide
    have s8 : ((8 : Int32).toBitVec.smod 32) = 8#32 := by decide
    rw [s0, s8, BitVec.toNat_or]
    simp only [BitVec.shiftLeft_eq', BitVec.toNat_shiftLeft, a1, a2]
    show (c.toBitVec.toNat % 256) <<< 0 % 2 ^ 32 ||| (c.toBitVec.toNat / 256) <<< 8 % 2 ^ 32 = _
    rw [Nat.shiftLeft_zero, Nat.mod_eq_of_lt (show c.toBitVec.toNat % 256 < 2 ^ 32 by omega), Nat.mod_eq_of_lt (show (c.toBitVec.toNat / 256) <<< 8 < 2 ^ 32 by rw [Nat.shiftLeft_eq]; omega), Nat.or_comm, ← Nat.shiftLeft_add_eq_or_of_lt (by omega), Nat.shiftLeft_eq]
    omega
  show BitVec.toNat (((((lo8 c &&& 255) <<< (0 : Int32)) ||| ((hi8 c &&& 255) <<< (8 : Int32))).toBitVec.setWidth 16).setWidth 32) = _
  rw [BitVec.toNat_setWidth, BitVec.toNat_setWidth, g]
  omega
end StrChars
namespace StrChars
open Jvm Sem ClassFile Op Lib Jvm.Stand Jvm.Free.XT Jvm.Free.ALB Jvm.Free.JM Jvm.Free
open Jvm.Lib.Cold (StaticIs)
theorem shr1 {n : Nat} (h : 2 * n < 2 ^ 31) : Int32.ofNat (2 * n) >>> ((1 : Int32) &&& 31) = Int32.ofNat n := by
  have e : ((1 : Int32) &&& 31) = 1 := by decide
  rw [e]
  apply Int32.toBitVec_inj.mp
  rw [Int32.toBitVec_shiftRight]
  have e1 : ((1 : Int32).toBitVec.smod 32) = 1#32 := by decide
  have hm : (BitVec.ofNat 32 (2 * n)).toNat = 2 * n := by rw [BitVec.toNat_ofNat, Nat.mod_eq_of_lt (by omega)]
  rw [e1, BitVec.sshiftRight_eq']
  apply BitVec.eq_of_toNat_eq
  show ((BitVec.ofNat 32 (2 * n)).sshiftRight 1).toNat = (BitVec.ofNat 32 n).toNat
  rw [BitVec.toNat_sshiftRight_of_msb_false (by rw [BitVec.msb_eq_false_iff_two_mul_lt, hm]; omega), hm, BitVec.toNat_ofNat, Nat.shiftRight_eq_div_pow]
  omega
/-- charAt's cast of a byte read back -/
def chr8 (u : Int32) : Int32 := (u &&& 255).toUInt32.toUInt16.toUInt32.toInt32
theorem chr8_lo8 {c : Int32} (h0 : ¬ c < 0) (h1 : ¬ 255 < c) : chr8 (lo8 c) = c := by
  have t : ∀ k : Fin 256, (Int32.ofNat k.val).toUInt32.toUInt16.toUInt32.toInt32 = Int32.ofNat k.val := by decide +kernel
  unfold chr8
  rw [lo8_mask h0 h1]
  rw [Int32.lt_iff_toInt_lt] at h0 h1
  have e0 : (0 : Int32).toInt = 0 := rfl
  have e1 : (255 : Int32).toInt = 255 := rfl
  obtain ⟨k, hk⟩ : ∃ k : Nat, c.toInt = k := ⟨c.toInt.toNat, by omega⟩
  have hx : c = Int32.ofNat k := Int32.toInt_inj.mp (by rw [hk, Int32.toInt_ofNat_small (by omega)])
  rw [hx]
  exact t ⟨k, by omega⟩
theorem narrow_ch {c : Int32} (h0 : ¬ c < 0) (h1 : ¬ 65535 < c) : narrow .char (.int c) = .int c := by
  have q : narrow .char (.int (pairCh (lo8 c) (hi8 c))) = .int (pairCh (lo8 c) (hi8 c)) := narrow_c _
  rwa [pair_says h0 h1] at q
/-- the array's cell V codes the n chars f 0 .. f (n - 1) by the coder cd, as the JDK does: coder 1 just where some char is above 255 -/
def Cod (cd : Int32) (n : Nat) (f : Nat → Int32) (V : Cell) : Prop := (cd = 0 ∧ V.slots.size = n ∧ ∀ j, j < n → V.slots[j]? = some (.int (lo8 (f j))) ∧ ¬ 255 < f j) ∨ (cd = 1 ∧ V.slots.size = 2 * n ∧ (∀ j, j < n → V.slots[2 * j]? = some (.int (lo8 (f j))) ∧ V.slots[2 * j + 1]? = some (.int (hi8 (f j)))) ∧ ∃ j, j < n ∧ 255 < f j)
theorem Cod.cd {cd : Int32} {n : Nat} {f : Nat → Int32} {V : Cell} (h : Cod cd n f V) : cd = 0 ∨ cd = 1 := h.imp (fun q => q.1) fun q => q.1
theorem Cod.len {cd : Int32} {n : Nat} {f : Nat → Int32} {V : Cell} (h : Cod cd n f V) (hs : V.slots.size < 2 ^ 31) : Int32.ofNat V.slots.size >>> (cd &&& 31) = Int32.ofNat n := by
  rcases h with ⟨rfl, h, -⟩ | ⟨rfl, h, -⟩
  · rw [shr0, h]
  · rw [h, shr1 (by omega)]
/-- **x is a String of the n chars f 0 .. f (n - 1)**, Latin-1 or UTF-16; its array at t has the cell V -/
def Txt (x t : Addr) (V : Cell) (cd : Int32) (n : Nat) (f : Nat → Int32) (U : State) : Prop := Exact "java/lang/String" x U ∧ Has x "java/lang/String" "value" "[B" (.ref t) U ∧ Has x "java/lang/String" "coder" "B" (.int cd) U ∧ XT.Arr .byte t V U ∧ Cod cd n f V ∧ ∀ j, j < n → ¬ f j < 0 ∧ ¬ 65535 < f j
theorem Txt.mv {x t : Addr} {V : Cell} {cd : Int32} {n : Nat} {f : Nat → Int32} {U U' : State} (h : Txt x t V cd n f U) (hal : U.vm.Alike U'.vm) (hh : U'.heap = U.heap) : Txt x t V cd n f U' := ⟨h.1.mv hal hh, h.2.1.mv hal hh, h.2.2.1.mv hal hh, h.2.2.2.1.mv hal hh, h.2.2.2.2⟩
namespace Cdr
def yN : MethodName := ⟨"java/lang/String", "coder", "()B"⟩
abbrev yB : ByteArray := jdk_42_method_152_code
theorem d0 : decode yB 0 = .ok (.getstatic 38, 3) := by decide +kernel
theorem d3 : decode yB 3 = .ok (.ifCond (.eq) 10, 3) := by decide +kernel
theorem d6 : decode yB 6 = .ok (.aload_n 0, 1) := by decide +kernel
theorem d7 : decode yB 7 = .ok (.getfield 15, 3) := by decide +kernel
theorem d10 : decode yB 10 = .ok (.goto 4, 3) := by decide +kernel
theorem d14 : decode yB 14 = .ok (.ireturn, 1) := by decide +kernel
def site : List Cond := [.fieldLink "java/lang/String" 38 "java/lang/String" "COMPACT_STRINGS" "Z", .fieldLink "java/lang/String" 15 "java/lang/String" "coder" "B"]
def tab : Cond := tabOf yN yB 1 (some .byte) site
def P (x : Addr) (cd z : Int32) (args : Array Value) (s : State) : Prop := args = #[.ref x] ∧ Has x "java/lang/String" "coder" "B" (.int cd) s ∧ (cd = 0 ∨ cd = 1) ∧ StaticIs s "java/lang/String" "COMPACT_STRINGS" "Z" (.int z) ∧ ¬ z = 0
def E (cd : Int32) (r : Option Value) (s u : State) : Prop := XT.PureE (some (.int cd)) r s u
theorem law (l : Launch) (x : Addr) (cd z : Int32) : Law l yN 1 0 0 0 yB 1 (some .byte) site (P x cd z) (E cd) [] 0 0 := by
  refine Law.of_walk (plainFor_of_name (by decide +kernel)) (by decide +kernel) (by decide +kernel) (by decide) (fun _ _ h => by rw [h.1]; rfl) (fun _ U U' hal hh h => ⟨h.1, h.2.1.mv hal hh, h.2.2.1, h.2.2.2.1.there hal hh, h.2.2.2.2⟩) (fun r U U' V V' h1 hal h2 h => XT.PureE.mv r U U' V V' h1 hal h2 h) ?_
  intro p e s m args below meth c s₁ X0 hexec hbytes hml hret hlk hnm hown hh0 W hP
  obtain ⟨rfl, hx, hc, s1, hz⟩ := hP
  have c1 : Steps p.tables e below (s₁.setTop (entryFrame m #[.ref x] 1)) (s₁.setTop (mkF m 0 #[.val (.ref x)] [])) := entry rfl
  obtain ⟨T2, X2, q2, st2⟩ := X0.sget hexec hown (wk W (.fieldLink "java/lang/String" 38 "java/lang/String" "COMPACT_STRINGS" "Z")) s1 (fun _ _ h => by rw [hh0]; exact h) (g := (mkF m 0 #[.val (.ref x)] [])) rfl (hb hbytes d0)
  have hh2 := q2.trans hh0
  have c3 : Steps p.tables e below (s₁.setTop (entryFrame m #[.ref x] 1)) (T2.setTop (mkF m 7 #[.val (.ref x)] [.ref x])) := (c1.trans (st2 _ (Steps.refl _))).trans (by
    refine XS.ifNo X2.here hexec rfl (hb hbytes d3) rfl (i0_eq_f hz) ?_
    refine XS.aloadN X2.here hexec rfl (hb hbytes d6) rfl rfl ?_
    exact Steps.refl _)
  obtain ⟨T4, X4, q4, st4⟩ := X2.hget hexec hown (wk W (.fieldLink "java/lang/String" 15 "java/lang/String" "coder" "B")) (hx.mv X2.warmed.alike hh2) (g := (mkF m 7 #[.val (.ref x)] [.ref x])) rfl (rest := []) rfl (hb hbytes d7)
  have c5 : Steps p.tables e below (s₁.setTop (entryFrame m #[.ref x] 1)) (T4.setTop (mkF m 14 #[.val (.ref x)] [.int cd])) := (c3.trans (st4 _ (Steps.refl _))).trans (by
    refine XS.goto X4.here hexec rfl (pc0 := 10) rfl (hb hbytes d10) (by decide) rfl ?_
    exact Steps.refl _)
  exact ⟨T4, some (.int cd), _, _, _, X4, rfl, rfl, rfl, (fun h => by cases h), ⟨rfl, q4.trans hh2⟩, fun fs hl => c5.trans (X4.ireturnOut hexec hret (by rcases hc with rfl | rfl <;> rfl) (Or.inr (Or.inr (Or.inl rfl))) (hb hbytes d14) hl)⟩
end Cdr
namespace Len
def yN : MethodName := ⟨"java/lang/String", "length", "()I"⟩
abbrev yB : ByteArray := jdk_42_method_54_code
theorem d0 : decode yB 0 = .ok (.aload_n 0, 1) := by decide +kernel
theorem d1 : decode yB 1 = .ok (.getfield 9, 3) := by decide +kernel
theorem d4 : decode yB 4 = .ok (.arraylength, 1) := by decide +kernel
theorem d5 : decode yB 5 = .ok (.aload_n 0, 1) := by decide +kernel
theorem d6 : decode yB 6 = .ok (.invokevirtual 335, 3) := by decide +kernel
theorem d9 : decode yB 9 = .ok (.ishr, 1) := by decide +kernel
theorem d10 : decode yB 10 = .ok (.ireturn, 1) := by decide +kernel
def site : List Cond := [.fieldLink "java/lang/String" 9 "java/lang/String" "value" "[B", Cdr.tab] ++ virtW "java/lang/String" 335 "java/lang/String" Cdr.yN Cdr.yN
def tab : Cond := tabOf yN yB 1 (some .int) site
def P (x t : Addr) (V : Cell) (cd : Int32) (n : Nat) (f : Nat → Int32) (z : Int32) (args : Array Value) (s : State) : Prop := args = #[.ref x] ∧ Txt x t V cd n f s ∧ StaticIs s "java/lang/String" "COMPACT_STRINGS" "Z" (.int z) ∧ ¬ z = 0
def E (n : Nat) (r : Option Value) (s u : State) : Prop := XT.PureE (some (.int (Int32.ofNat n))) r s u
/-- length() of a String of n chars, in either coding -/
theorem law (l : Launch) (x t : Addr) (V : Cell) (cd : Int32) (n : Nat) (f : Nat → Int32) (z : Int32) : Law l yN 1 0 1 13 yB 1 (some .int) site (P x t V cd n f z) (E n) [] 0 0 := by
  refine Law.of_walk (plainFor_of_name (by decide +kernel)) (by decide +kernel) (by decide +kernel) (by decide) (fun _ _ h => by rw [h.1]; rfl) (fun _ U U' hal hh h => ⟨h.1, h.2.1.mv hal hh, h.2.2.1.there hal hh, h.2.2.2⟩) (fun r U U' V V' h1 hal h2 h => XT.PureE.mv r U U' V V' h1 hal h2 h) ?_
  intro p e s m args below meth c s₁ X0 hexec hbytes hml hret hlk hnm hown hh0 W hP
  obtain ⟨rfl, hx, s1, hz⟩ := hP
  have v31 := hx.2.2.2.1.2.2.2
  have c1 : Steps p.tables e below (s₁.setTop (entryFrame m #[.ref x] 1)) (s₁.setTop (mkF m 1 #[.val (.ref x)] [.ref x])) := Steps.trans (entry rfl) (by
    show Steps p.tables e below (s₁.setTop (mkF m 0 #[.val (.ref x)] [])) _
    refine XS.aloadN X0.here hexec rfl (hb hbytes d0) rfl rfl ?_
    exact Steps.refl _)
  obtain ⟨T2, X2, q2, st2⟩ := X0.hget hexec hown (wk W (.fieldLink "java/lang/String" 9 "java/lang/String" "value" "[B")) (hx.mv X0.warmed.alike hh0).2.1 (g := (mkF m 1 #[.val (.ref x)] [.ref x])) rfl (rest := []) rfl (hb hbytes d1)
  have hh2 := q2.trans hh0
  have hx2 := hx.mv X2.warmed.alike hh2
  have c3 : Steps p.tables e below (s₁.setTop (entryFrame m #[.ref x] 1)) (T2.setTop (mkF m 6 #[.val (.ref x)] [.ref x, .int (Int32.ofNat V.slots.size)])) := (c1.trans (st2 _ (Steps.refl _))).trans (by
    refine X2.alen hexec hx2.2.2.2.1 rfl rfl (hb hbytes d4) ?_
    refine XS.aloadN X2.here hexec rfl (hb hbytes d5) rfl rfl ?_
    exact Steps.refl _)
  obtain ⟨v4, T4, X4, E4, g4⟩ := X2.callV hexec (Cdr.law l x cd z) hown (wks W (virtW "java/lang/String" 335 "java/lang/String" Cdr.yN Cdr.yN)) rfl (by decide) (wk W Cdr.tab) (W := 1) (Nat.le_of_ble_eq_true rfl) (Nat.le_of_ble_eq_true rfl) (Nat.le_refl _) (Nat.le_refl _) (hx2.1.fc X2.warmed.alike) hx2.1.is (g := (mkF m 6 #[.val (.ref x)] [.ref x, .int (Int32.ofNat V.slots.size)])) rfl (by rw [hml]; rfl) c3 (argsL := []) (rest := [.int (Int32.ofNat V.slots.size)]) rfl rfl (by show 2 * 0 + (1 + 0) ≤ _; decide) (hb hbytes d6) (⟨rfl, hx2.2.2.1, hx.2.2.2.2.1.cd, s1.there X2.warmed.alike hh2, hz⟩)
  obtain ⟨rfl, q4⟩ := E4
  have c5 : Steps p.tables e below (s₁.setTop (entryFrame m #[.ref x] 1)) (T4.setTop (mkF m 10 #[.val (.ref x)] [.int (Int32.ofNat V.slots.size >>> (cd &&& 31))])) := Steps.trans g4 (by
    refine ishr X4.here hexec rfl (hb hbytes d9) rfl ?_
    exact Steps.refl _)
  rw [hx.2.2.2.2.1.len v31] at c5
  exact ⟨T4, some (.int (Int32.ofNat n)), _, _, _, X4, rfl, rfl, rfl, (fun h => by cases h), ⟨rfl, q4.trans hh2⟩, fun fs hl => c5.trans (X4.ireturnOut hexec hret rfl (Or.inl rfl) (hb hbytes d10) hl)⟩
theorem pays {l : Launch} {R : Room} {p : Program} {e : Env} {below : List Frame} {s : State} {sargs : Array Value} {len W : Nat} (x t : Addr) (V : Cell) (cd : Int32) (n : Nat) (f : Nat → Int32) (z : Int32) (htab : tab.before sargs s = true) (hfr : 2 ≤ R.frames) (hlo : W + 25 ≤ R.locals) :
    Back l R p e below s sargs yN len W (fun A₁ a₁ => A₁.cells + 0 ≤ R.cells ∧ A₁.slots + 0 ≤ R.slots ∧ P x t V cd n f z a₁ A₁.U) (fun A₁ _ v₁ B₁ => E n v₁ A₁.U B₁.U ∧ B₁.locs = A₁.locs ++ [] ∧ B₁.cells = A₁.cells + 0 ∧ B₁.slots = A₁.slots + 0) :=
  (law l x t V cd n f z).pays htab hfr (by omega)
end Len
namespace IsL
def yN : MethodName := ⟨"java/lang/String", "isLatin1", "()Z"⟩
abbrev yB : ByteArray := jdk_42_method_154_code
theorem d0 : decode yB 0 = .ok (.getstatic 38, 3) := by decide +kernel
theorem d3 : decode yB 3 = .ok (.ifCond (.eq) 14, 3) := by decide +kernel
theorem d6 : decode yB 6 = .ok (.aload_n 0, 1) := by decide +kernel
theorem d7 : decode yB 7 = .ok (.getfield 15, 3) := by decide +kernel
theorem d10 : decode yB 10 = .ok (.ifCond (.ne) 7, 3) := by decide +kernel
theorem d13 : decode yB 13 = .ok (.iconst 1, 1) := by decide +kernel
theorem d14 : decode yB 14 = .ok (.goto 4, 3) := by decide +kernel
theorem d17 : decode yB 17 = .ok (.iconst 0, 1) := by decide +kernel
theorem d18 : decode yB 18 = .ok (.ireturn, 1) := by decide +kernel
def site : List Cond := [.fieldLink "java/lang/String" 38 "java/lang/String" "COMPACT_STRINGS" "Z", .fieldLink "java/lang/String" 15 "java/lang/String" "coder" "B"]
def tab : Cond := tabOf yN yB 1 (some .boolean) site
def P (x : Addr) (cd z : Int32) (args : Array Value) (s : State) : Prop := args = #[.ref x] ∧ Has x "java/lang/String" "coder" "B" (.int cd) s ∧ (cd = 0 ∨ cd = 1) ∧ StaticIs s "java/lang/String" "COMPACT_STRINGS" "Z" (.int z) ∧ ¬ z = 0
def E (cd : Int32) (r : Option Value) (s u : State) : Prop := XT.PureE (some (.int (1 - cd))) r s u
theorem law (l : Launch) (x : Addr) (cd z : Int32) : Law l yN 1 0 0 0 yB 1 (some .boolean) site (P x cd z) (E cd) [] 0 0 := by
  refine Law.of_walk (plainFor_of_name (by decide +kernel)) (by decide +kernel) (by decide +kernel) (by decide) (fun _ _ h => by rw [h.1]; rfl) (fun _ U U' hal hh h => ⟨h.1, h.2.1.mv hal hh, h.2.2.1, h.2.2.2.1.there hal hh, h.2.2.2.2⟩) (fun r U U' V V' h1 hal h2 h => XT.PureE.mv r U U' V V' h1 hal h2 h) ?_
  intro p e s m args below meth c s₁ X0 hexec hbytes hml hret hlk hnm hown hh0 W hP
  obtain ⟨rfl, hx, hc, s1, hz⟩ := hP
  have c1 : Steps p.tables e below (s₁.setTop (entryFrame m #[.ref x] 1)) (s₁.setTop (mkF m 0 #[.val (.ref x)] [])) := entry rfl
  obtain ⟨T2, X2, q2, st2⟩ := X0.sget hexec hown (wk W (.fieldLink "java/lang/String" 38 "java/lang/String" "COMPACT_STRINGS" "Z")) s1 (fun _ _ h => by rw [hh0]; exact h) (g := (mkF m 0 #[.val (.ref x)] [])) rfl (hb hbytes d0)
  have hh2 := q2.trans hh0
  have c3 : Steps p.tables e below (s₁.setTop (entryFrame m #[.ref x] 1)) (T2.setTop (mkF m 7 #[.val (.ref x)] [.ref x])) := (c1.trans (st2 _ (Steps.refl _))).trans (by
    refine XS.ifNo X2.here hexec rfl (hb hbytes d3) rfl (i0_eq_f hz) ?_
    refine XS.aloadN X2.here hexec rfl (hb hbytes d6) rfl rfl ?_
    exact Steps.refl _)
  obtain ⟨T4, X4, q4, st4⟩ := X2.hget hexec hown (wk W (.fieldLink "java/lang/String" 15 "java/lang/String" "coder" "B")) (hx.mv X2.warmed.alike hh2) (g := (mkF m 7 #[.val (.ref x)] [.ref x])) rfl (rest := []) rfl (hb hbytes d7)
  have c5 : Steps p.tables e below (s₁.setTop (entryFrame m #[.ref x] 1)) (T4.setTop (mkF m 10 #[.val (.ref x)] [.int cd])) := c3.trans (st4 _ (Steps.refl _))
  have c6 : Steps p.tables e below (s₁.setTop (entryFrame m #[.ref x] 1)) (T4.setTop (mkF m 18 #[.val (.ref x)] [.int (1 - cd)])) := by
    rcases hc with rfl | rfl
    · exact c5.trans (by
        refine XS.ifNo X4.here hexec rfl (hb hbytes d10) rfl (i0_ne_f rfl) ?_
        refine iconstV X4.here hexec rfl 1 (hb hbytes d13) (by decide) ?_
        refine XS.goto X4.here hexec rfl (pc0 := 14) rfl (hb hbytes d14) (by decide) rfl ?_
        exact Steps.refl _)
    · exact c5.trans (by
        refine XS.ifYes X4.here hexec rfl (pc0 := 10) rfl (hb hbytes d10) rfl (i0_ne_t (by decide)) (by decide) rfl ?_
        refine iconstV X4.here hexec rfl 0 (hb hbytes d17) (by decide) ?_
        exact Steps.refl _)
  exact ⟨T4, some (.int (1 - cd)), _, _, _, X4, rfl, rfl, rfl, (fun h => by cases h), ⟨rfl, q4.trans hh2⟩, fun fs hl => c6.trans (X4.ireturnOut hexec hret (by rcases hc with rfl | rfl <;> rfl) (Or.inr (Or.inl rfl)) (hb hbytes d18) hl)⟩
end IsL
namespace LChA
def yN : MethodName := ⟨"java/lang/StringLatin1", "charAt", "([BI)C"⟩
abbrev yB : ByteArray := jdk_43_method_2_code
theorem d0 : decode yB 0 = .ok (.iload_n 1, 1) := by decide +kernel
theorem d1 : decode yB 1 = .ok (.aload_n 0, 1) := by decide +kernel
theorem d2 : decode yB 2 = .ok (.arraylength, 1) := by decide +kernel
theorem d3 : decode yB 3 = .ok (.invokestatic 9, 3) := by decide +kernel
theorem d6 : decode yB 6 = .ok (.aload_n 0, 1) := by decide +kernel
theorem d7 : decode yB 7 = .ok (.iload_n 1, 1) := by decide +kernel
theorem d8 : decode yB 8 = .ok (.baload, 1) := by decide +kernel
theorem d9 : decode yB 9 = .ok (.sipush 255, 3) := by decide +kernel
theorem d12 : decode yB 12 = .ok (.iand, 1) := by decide +kernel
theorem d13 : decode yB 13 = .ok (.i2c, 1) := by decide +kernel
theorem d14 : decode yB 14 = .ok (.ireturn, 1) := by decide +kernel
def site : List Cond := [JO.Str_checkIndex.tab] ++ staticW "java/lang/StringLatin1" 9 JO.Str_checkIndex.yN
def tab : Cond := tabOf yN yB 2 (some .char) site
def P (t : Addr) (V : Cell) (i : Nat) (u : Int32) (fm : Value) (args : Array Value) (s : State) : Prop := args = #[.ref t, .int (Int32.ofNat i)] ∧ XT.Arr .byte t V s ∧ V.slots[i]? = some (.int u) ∧ (StaticIs s "jdk/internal/util/Preconditions" "SIOOBE_FORMATTER" "Ljava/util/function/BiFunction;" fm ∧ fm.isRef = true)
def E (u : Int32) (r : Option Value) (s w : State) : Prop := XT.PureE (some (.int (chr8 u))) r s w
theorem law (l : Launch) (t : Addr) (V : Cell) (i : Nat) (u : Int32) (fm : Value) : Law l yN 2 2 2 27 yB 2 (some .char) site (P t V i u fm) (E u) [] 0 0 := by
  refine Law.of_walk (plainFor_of_name (by decide +kernel)) (by decide +kernel) (by decide +kernel) (by decide) (fun _ _ h => by rw [h.1]; rfl) (fun _ U U' hal hh h => ⟨h.1, h.2.1.mv hal hh, h.2.2.1, h.2.2.2.1.there hal hh, h.2.2.2.2⟩) (fun r U U' V V' h1 hal h2 h => XT.PureE.mv r U U' V V' h1 hal h2 h) ?_
  intro p e s m args below meth c s₁ X0 hexec hbytes hml hret hlk hnm hown hh0 W hP
  obtain ⟨rfl, hV, hu, s1, rf⟩ := hP
  have v31 := hV.2.2.2
  have hi : i < V.slots.size := (Array.getElem?_eq_some_iff.mp hu).1
  have c1 : Steps p.tables e below (s₁.setTop (entryFrame m #[.ref t, .int (Int32.ofNat i)] 2)) (s₁.setTop (mkF m 0 #[.val (.ref t), .val (.int (Int32.ofNat i))] [])) := entry rfl
  have c2 : Steps p.tables e below (s₁.setTop (entryFrame m #[.ref t, .int (Int32.ofNat i)] 2)) (s₁.setTop (mkF m 3 #[.val (.ref t), .val (.int (Int32.ofNat i))] [.int (Int32.ofNat V.slots.size), .int (Int32.ofNat i)])) := c1.trans (by
    refine XS.iloadN X0.here hexec rfl (hb hbytes d0) rfl ?_
    refine XS.aloadN X0.here hexec rfl (hb hbytes d1) rfl rfl ?_
    refine X0.alen hexec (hV.mv X0.warmed.alike hh0) rfl rfl (hb hbytes d2) ?_
    exact Steps.refl _)
  obtain ⟨v3, T3, X3, E3, g3⟩ := X0.callS hexec (JO.Str_checkIndex.law l (Int32.ofNat i) (Int32.ofNat V.slots.size) fm) hown (wks W (staticW "java/lang/StringLatin1" 9 JO.Str_checkIndex.yN)) (wk W JO.Str_checkIndex.tab) (W := 0) (Nat.le_of_ble_eq_true rfl) (Nat.le_of_ble_eq_true rfl) (Nat.le_refl _) (Nat.le_refl _) (g := (mkF m 3 #[.val (.ref t), .val (.int (Int32.ofNat i))] [.int (Int32.ofNat V.slots.size), .int (Int32.ofNat i)])) rfl (by rw [hml]; rfl) c2 (argsL := [.int (Int32.ofNat i), .int (Int32.ofNat V.slots.size)]) (rest := []) rfl rfl (by show 2 * 0 + 0 ≤ _; decide) (hb hbytes d3) (⟨rfl, rf, s1.there X0.warmed.alike hh0, Int32.ofNat_not_neg (by omega), lt32 v31 hi⟩)
  obtain ⟨rfl, q3⟩ := E3
  have hh3 := q3.trans hh0
  have c4 : Steps p.tables e below (s₁.setTop (entryFrame m #[.ref t, .int (Int32.ofNat i)] 2)) (T3.setTop (mkF m 14 #[.val (.ref t), .val (.int (Int32.ofNat i))] [.int (chr8 u)])) := Steps.trans g3 (by
    refine XS.aloadN X3.here hexec rfl (hb hbytes d6) rfl rfl ?_
    refine XS.iloadN X3.here hexec rfl (hb hbytes d7) rfl ?_
    refine X3.aget hexec (hV.mv X3.warmed.alike hh3) rfl hu rfl rfl (hb hbytes d8) ?_
    refine sipushV X3.here hexec rfl 255 (hb hbytes d9) (by decide) ?_
    refine XS.iand X3.here hexec rfl (hb hbytes d12) rfl ?_
    refine i2c X3.here hexec rfl (hb hbytes d13) rfl ?_
    exact Steps.refl _)
  exact ⟨T3, some (.int (chr8 u)), _, _, _, X3, rfl, rfl, rfl, (fun h => by cases h), ⟨rfl, hh3⟩, fun fs hl => c4.trans (X3.ireturnOut hexec hret (narrow_c _) (Or.inr (Or.inr (Or.inr (Or.inl rfl)))) (hb hbytes d14) hl)⟩
end LChA
end StrChars
namespace StrChars.Road
open Jvm Sem ClassFile Op Lib Jvm.Stand Jvm.Free Jvm.Free.XT
open Jvm.Lib.Cold (StaticIs)
theorem consq {a : Array Value} {s : State} {c : Jvm.Cond} {L : List Jvm.Cond} (h0 : c.before a s = true) (h : ∀ w ∈ L, w.before a s = true) : ∀ w ∈ c :: L, w.before a s = true := fun w hw => (List.mem_cons.mp hw).elim (fun e => e ▸ h0) (h w)
/-- the words of String.length(), either coding -/
abbrev wordsLen : List Jvm.Cond := [.code Len.yN Len.yB 1 (some .int), .initialized ST, .fieldLink ST 9 ST "value" "[B", .fieldLink ST 38 ST "COMPACT_STRINGS" "Z", .fieldLink ST 15 ST "coder" "B", .code Cdr.yN Cdr.yB 1 (some .byte), .methodLink ST 335 Cdr.yN, .declares Cdr.yN, .selects ST Cdr.yN Cdr.yN, .instanceMethod Cdr.yN]
theorem tabLen_of {a : Array Value} {s : State} (h : ∀ w ∈ wordsLen, w.before a s = true) : Len.tab.before a s = true := by
  have hc : Cdr.tab.before a s = true := unparts (wk h (.code Cdr.yN Cdr.yB 1 (some .byte))) (wks h (.initialized Cdr.yN.cls :: Cdr.site))
  have q := consq hc h
  exact unparts (wk q (.code Len.yN Len.yB 1 (some .int))) (wks q (.initialized Len.yN.cls :: Len.site))
theorem movedLen {Z s : State} {a0 args : Array Value} (hZ : Z.Warmed39 s.vm) (hw : ∀ d ∈ wordsLen, d.before a0 Z = true) : ∀ d ∈ wordsLen, d.before args s = true := fun d hd => by
  have q := hw d hd
  have t : ∀ d ∈ wordsLen, d = .arrayClass .byte ∨ (d.onTables && d.keepsFace) = true := by decide +kernel
  rcases t d hd with rfl | t
  · exact RoadKit.mvA hZ q
  · exact RoadKit.mv hZ q t
/-- the bytes of the chars cs, low before high -/
def wideBytes : List Int32 → List Value
  | [] => []
  | c :: cs => .int (lo8 c) :: .int (hi8 c) :: wideBytes cs
theorem wide_lo (d : Value) : ∀ (cs : List Int32) (j : Nat), j < cs.length → (wideBytes cs).getD (2 * j) d = .int (lo8 (cs.getD j 0))
  | [], j, h => absurd h (Nat.not_lt_zero j)
  | c :: cs, 0, _ => rfl
  | c :: cs, j + 1, h => by
    have q := wide_lo d cs j (by simpa using h)
    rw [show 2 * (j + 1) = 2 * j + 1 + 1 from by omega]
    simpa [wideBytes] using q
theorem wide_hi (d : Value) : ∀ (cs : List Int32) (j : Nat), j < cs.length → (wideBytes cs).getD (2 * j + 1) d = .int (hi8 (cs.getD j 0))
  | [], j, h => absurd h (Nat.not_lt_zero j)
  | c :: cs, 0, _ => rfl
  | c :: cs, j + 1, h => by
    have q := wide_hi d cs j (by simpa using h)
    rw [show 2 * (j + 1) + 1 = 2 * j + 1 + 1 + 1 from by omega]
    simpa [wideBytes] using q
theorem low_at (d : Value) (cs : List Int32) (j : Nat) (h : j < cs.length) : (cs.map fun c => Value.int (lo8 c)).getD j d = .int (lo8 (cs.getD j 0)) := by
  simp [List.getD_eq_getElem?_getD, h]
/-- an array of N2 bytes vs codes the chars cs by the coder cd -/
def CodA (cs : List Int32) (cd N2 : Int32) (vs : List Value) : Prop := (cd = 0 ∧ N2 = Int32.ofNat cs.length ∧ vs = (cs.map fun c => Value.int (lo8 c)) ∧ ∀ c ∈ cs, ¬ 255 < c) ∨ (cd = 1 ∧ N2 = Int32.ofNat (2 * cs.length) ∧ vs = wideBytes cs ∧ ∃ c ∈ cs, 255 < c)
theorem CodA.cod {cs : List Int32} {cd N2 : Int32} {vs : List Value} {V : Cell} (h : CodA cs cd N2 vs) (hn : 2 * cs.length < 2 ^ 31) (hs : V.slots.size = N2.toNatClampNeg) (hv : RoadKit.Has V vs (.int 0)) : Cod cd cs.length (fun j => cs.getD j 0) V := by
  rcases h with ⟨rfl, rfl, rfl, h⟩ | ⟨rfl, rfl, rfl, c, hc, hw⟩
  · rw [n32 (by omega)] at hs
    exact Or.inl ⟨rfl, hs, fun j hj => ⟨by rw [hv j (by omega), low_at _ _ _ hj], by
      have e : cs.getD j 0 = cs[j] := by simp [List.getD_eq_getElem?_getD, hj]
      show ¬ 255 < cs.getD j 0
      rw [e]; exact h _ (List.getElem_mem _)⟩⟩
  · rw [n32 (by omega)] at hs
    obtain ⟨j, hj, rfl⟩ := List.getElem_of_mem hc
    exact Or.inr ⟨rfl, hs, fun j hj => ⟨by rw [hv _ (by omega), wide_lo _ _ _ hj], by rw [hv _ (by omega), wide_hi _ _ _ hj]⟩, j, hj, by
      have e : cs.getD j 0 = cs[j] := by simp [List.getD_eq_getElem?_getD, hj]
      show 255 < cs.getD j 0
      rw [e]; exact hw⟩
/-- an object of exactly java/lang/String, its two fields found: as the laws ask it -/
theorem strObj {Z U : State} {a0 : Array Value} {kI : Nat} (wi : (Jvm.Cond.instantiable ST kI).before a0 Z = true) (al : Z.vm.Alike U.vm) {x : Addr} {v0 c0 : Value} (E : RoadKit.Exa Z U.heap x ST) (V : RoadKit.Fld Z U.heap x ST "value" "[B" v0) (C : RoadKit.Fld Z U.heap x ST "coder" "B" c0) :
    ∃ (D : Cell) (fV fC : Field), Blank ST x D U ∧ Found ST "value" "[B" fV U ∧ Found ST "coder" "B" fC U ∧ D.slots[fV.slot]? = some v0 ∧ D.slots[fC.slot]? = some c0 ∧ RoadKit.slotOf Z ST "value" "[B" = fV.slot ∧ RoadKit.slotOf Z ST "coder" "B" = fC.slot := by
  obtain ⟨D, cfV, kV, iV, fV, hD, gV, stV, knV, obV, asV, slV⟩ := V
  obtain ⟨D', cfC, kC, iC, fC, hD', gC, stC, -, -, asC, slC⟩ := C
  cases hD.symm.trans hD'
  obtain ⟨D2, kD, e1, e2, e3, e4, e5⟩ := E
  cases hD.symm.trans e1
  obtain ⟨c2, k2, i1, i2, i3, -⟩ := Cond.instantiable_spec wi
  cases e2.symm.trans i1
  cases e3.symm.trans i2
  obtain ⟨kU, u1, u2⟩ := al.2.2 _ _ e3
  exact ⟨D, fV, fC, ⟨hD, ⟨knV, fun q hq => by rw [hq] at obV; cases obV⟩, by rw [al.findClass]; exact e2, kU, u1, by rw [u2]; exact i3, by rw [u2]; exact e5 i3⟩, ⟨SBG.found_only al ⟨cfV, kV, iV, gV⟩, stV⟩, ⟨SBG.found_only al ⟨cfC, kC, iC, gC⟩, stC⟩, slV, slC, by simp [RoadKit.slotOf, gV], by simp [RoadKit.slotOf, gC]⟩
theorem sta_is {Z U : State} (al : Z.vm.Alike U.vm) {C n d : String} {v : Value} (S : RoadKit.Sta Z U.heap C n d v) : StaticIs U C n d v := by
  obtain ⟨cfS, iS, kS, fS, st, cS, t1, t2, t3, t4, t5, t6, t7⟩ := S
  exact StaticIs.there (s := { Z with heap := U.heap }) ⟨cfS, iS, kS, fS, st, cS, t1, t2, t3, t4, t5, (fun q => by rw [q] at t6; cases t6), t7⟩ al rfl
/-- **length() OF SUCH A STRING** -/
theorem lenW {p : Program} {l : Launch} {e : Env} {R : Room} {s : State} {args : Array Value} {below : List Frame} {len W : Nat} {Z : State} {a0 : Array Value} {h : Heap} (hZ : Z.Warmed39 s.vm) (hw : ∀ d ∈ wordsLen, d.before a0 Z = true) {kI : Nat} (wi : (Jvm.Cond.instantiable ST kI).before a0 Z = true)
    {x t : Addr} {kb : ClassId} {cs : List Int32} {cd N2 z : Int32} {vs : List Value} (E : RoadKit.Exa Z h x ST) (V : RoadKit.Fld Z h x ST "value" "[B" (.ref t)) (C : RoadKit.Fld Z h x ST "coder" "B" (.int cd)) (K : RoadKit.Arv Z h t kb .byte N2 vs (.int 0)) (hc : CodA cs cd N2 vs) (hb : ∀ c ∈ cs, ¬ c < 0 ∧ ¬ (65535 : Int32) < c)
    (S : RoadKit.Sta Z h ST "COMPACT_STRINGS" "Z" (.int z)) (hz : ¬ z = 0) (l2 : cs.length ≤ 4000) (hfr : 2 ≤ R.frames) (hlo : W + 25 ≤ R.locals) :
    Back l R p e below s args (⟨"java/lang/String", "length", "()I"⟩ : MethodName) len W (fun P a => a = #[.ref x] ∧ P.U.heap = h ∧ P.cells + 0 ≤ R.cells ∧ P.slots + 0 ≤ R.slots)
      (fun P _ v B => ∃ L, (v = some (.int (Int32.ofNat cs.length)) ∧ L = [] ∧ B.U.heap = h) ∧ B.locs = P.locs ++ L ∧ B.cells = P.cells + 0 ∧ B.slots = P.slots + 0) := by
  obtain ⟨A, K1, K2, K3, K4, K5, K6⟩ := K
  have hcod := hc.cod (by omega) K3 K5
  intro m meth c P g ig mk a X hg hsize hdg hW hn hp'
  obtain ⟨rfl, rfl, r1, r2⟩ := hp'
  have al : Z.vm.Alike P.U.vm := hZ.alike.trans X.warmed.alike
  obtain ⟨D, fV, fC, hB, F1, F2, g1, g2, -, -⟩ := strObj wi al E V C
  have hx : Txt x t A cd cs.length (fun j => cs.getD j 0) P.U := ⟨⟨_, hB.2.2.1, D, hB.1, rfl, by cases q : D.vm <;> first | rfl | exact absurd q (hB.2.1.2 _)⟩, Has.of hB F1 g1, Has.of hB F2 g2, ⟨K1.1, State.isArrayOf_alike al K1.2.1, K1.2.2, by rcases hcod with ⟨-, q, -⟩ | ⟨-, q, -⟩ <;> omega⟩, hcod, fun j hj => by
    have e : cs.getD j 0 = cs[j] := by simp [List.getD_eq_getElem?_getD, hj]
    show ¬ cs.getD j 0 < 0 ∧ ¬ 65535 < cs.getD j 0
    rw [e]; exact hb _ (List.getElem_mem _)⟩
  obtain ⟨v, B, X', ⟨⟨hv, hh⟩, hl, hk, hs⟩, st⟩ := Len.pays x t A cd cs.length (fun j => cs.getD j 0) z (tabLen_of (movedLen hZ hw)) hfr hlo m meth c P g ig mk _ X hg hsize hdg hW hn ⟨r1, r2, rfl, hx, sta_is al S, hz⟩
  exact ⟨v, B, X', ⟨[], ⟨hv, rfl, hh⟩, hl, hk, hs⟩, st⟩
end StrChars.Road
namespace StrChars
open Jvm Sem ClassFile Op Lib Jvm.Stand Jvm.Free.XT Jvm.Free.ALB Jvm.Free.JM Jvm.Free
open Jvm.Lib.Cold (StaticIs)
/-- what place i of a byte[]'s cell holds -/
def yv (A : Cell) (i : Nat) : Int32 := match A.slots[i]? with | some (.int x) => x | _ => 0
theorem yv_get {a : Addr} {A : Cell} {U : State} (h : XT.Arr .byte a A U) (ht : Typed .byte A) {i : Nat} (hi : i < A.slots.size) : A.slots[i]? = some (.int (yv A i)) := by
  have e := Array.getElem?_eq_getElem hi
  have f := ht i _ e
  unfold yv; rw [e]
  generalize A.slots[i] = v at f
  cases v <;> simp [fits] at f ⊢
/-- the two arrays are equal, place for place -/
def EqC (A B : Cell) : Prop := A.slots.size = B.slots.size ∧ ∀ i, i < A.slots.size → yv A i = yv B i
/-- a boolean that says whether p -/
def Says01 (q : Prop) (r : Option Value) (s u : State) : Prop := ∃ v : Int32, r = some (.int v) ∧ u.heap = s.heap ∧ ((v = 1 ∧ q) ∨ (v = 0 ∧ ¬ q))
theorem Says01.mv {q : Prop} : ∀ r (U U' V V' : State), U'.heap = U.heap → V.vm.Alike V'.vm → V'.heap = V.heap → Says01 q r U V → Says01 q r U' V' :=
  fun r U U' V V' h1 _ h2 ⟨v, a, b, c⟩ => ⟨v, a, by rw [h1, h2]; exact b, c⟩
namespace LEq
def yN : MethodName := ⟨"java/lang/StringLatin1", "equals", "([B[B)Z"⟩
abbrev yB : ByteArray := jdk_43_method_13_code
theorem d0 : decode yB 0 = .ok (.aload_n 0, 1) := by decide +kernel
theorem d1 : decode yB 1 = .ok (.arraylength, 1) := by decide +kernel
theorem d2 : decode yB 2 = .ok (.aload_n 1, 1) := by decide +kernel
theorem d3 : decode yB 3 = .ok (.arraylength, 1) := by decide +kernel
theorem d4 : decode yB 4 = .ok (.if_icmp (.ne) 30, 3) := by decide +kernel
theorem d7 : decode yB 7 = .ok (.iconst 0, 1) := by decide +kernel
theorem d8 : decode yB 8 = .ok (.istore_n 2, 1) := by decide +kernel
theorem d9 : decode yB 9 = .ok (.iload_n 2, 1) := by decide +kernel
theorem d10 : decode yB 10 = .ok (.aload_n 0, 1) := by decide +kernel
theorem d11 : decode yB 11 = .ok (.arraylength, 1) := by decide +kernel
theorem d12 : decode yB 12 = .ok (.if_icmp (.ge) 20, 3) := by decide +kernel
theorem d15 : decode yB 15 = .ok (.aload_n 0, 1) := by decide +kernel
theorem d16 : decode yB 16 = .ok (.iload_n 2, 1) := by decide +kernel
theorem d17 : decode yB 17 = .ok (.baload, 1) := by decide +kernel
theorem d18 : decode yB 18 = .ok (.aload_n 1, 1) := by decide +kernel
theorem d19 : decode yB 19 = .ok (.iload_n 2, 1) := by decide +kernel
theorem d20 : decode yB 20 = .ok (.baload, 1) := by decide +kernel
theorem d21 : decode yB 21 = .ok (.if_icmp (.eq) 5, 3) := by decide +kernel
theorem d24 : decode yB 24 = .ok (.iconst 0, 1) := by decide +kernel
theorem d25 : decode yB 25 = .ok (.ireturn, 1) := by decide +kernel
theorem d26 : decode yB 26 = .ok (.iinc 2 1, 3) := by decide +kernel
theorem d29 : decode yB 29 = .ok (.goto (-20), 3) := by decide +kernel
theorem d32 : decode yB 32 = .ok (.iconst 1, 1) := by decide +kernel
theorem d33 : decode yB 33 = .ok (.ireturn, 1) := by decide +kernel
theorem d34 : decode yB 34 = .ok (.iconst 0, 1) := by decide +kernel
theorem d35 : decode yB 35 = .ok (.ireturn, 1) := by decide +kernel
def site : List Cond := []
def tab : Cond := tabOf yN yB 3 (some .boolean) site
def P (a : Addr) (A : Cell) (b : Addr) (B : Cell) (args : Array Value) (s : State) : Prop := args = #[.ref a, .ref b] ∧ XT.Arr .byte a A s ∧ Typed .byte A ∧ XT.Arr .byte b B s ∧ Typed .byte B
/-- whether two byte[] are equal, place for place -/
theorem law (l : Launch) (a : Addr) (A : Cell) (b : Addr) (B : Cell) : Law l yN 2 2 0 0 yB 3 (some .boolean) site (P a A b B) (Says01 (EqC A B)) [] 0 0 := by
  refine Law.of_walk (plainFor_of_name (by decide +kernel)) (by decide +kernel) (by decide +kernel) (by decide) (fun _ _ h => by rw [h.1]; rfl) (fun _ U U' hal hh h => ⟨h.1, h.2.1.mv hal hh, h.2.2.1, h.2.2.2.1.mv hal hh, h.2.2.2.2⟩) (fun r U U' V V' h1 hal h2 h => Says01.mv r U U' V V' h1 hal h2 h) ?_
  intro p e s m args below meth c s₁ X0 hexec hbytes hml hret hlk hnm hown hh0 W hP
  obtain ⟨rfl, hA, tA, hB, tB⟩ := hP
  have a31 := hA.2.2.2
  have b31 := hB.2.2.2
  have hA0 := hA.mv X0.warmed.alike hh0
  have hB0 := hB.mv X0.warmed.alike hh0
  have c1 : Steps p.tables e below (s₁.setTop (entryFrame m #[.ref a, .ref b] 3)) (s₁.setTop (mkF m 0 #[.val (.ref a), .val (.ref b), .unset] [])) := entry rfl
  have c2 : Steps p.tables e below (s₁.setTop (entryFrame m #[.ref a, .ref b] 3)) (s₁.setTop (mkF m 4 #[.val (.ref a), .val (.ref b), .unset] [.int (Int32.ofNat B.slots.size), .int (Int32.ofNat A.slots.size)])) := c1.trans (by
    refine XS.aloadN X0.here hexec rfl (hb hbytes d0) rfl rfl ?_
    refine X0.alen hexec hA0 rfl rfl (hb hbytes d1) ?_
    refine XS.aloadN X0.here hexec rfl (hb hbytes d2) rfl rfl ?_
    refine X0.alen hexec hB0 rfl rfl (hb hbytes d3) ?_
    exact Steps.refl _)
  by_cases hs : A.slots.size = B.slots.size
  · have c3 : Steps p.tables e below (s₁.setTop (entryFrame m #[.ref a, .ref b] 3)) (s₁.setTop (mkF m 9 #[.val (.ref a), .val (.ref b), .val (.int 0)] [])) := c2.trans (by
      refine XS.icmpNo X0.here hexec rfl (hb hbytes d4) rfl (ii_ne_f (by rw [hs])) ?_
      refine iconstV X0.here hexec rfl 0 (hb hbytes d7) (by decide) ?_
      refine XS.istoreN X0.here hexec rfl (hb hbytes d8) rfl rfl ?_
      exact Steps.refl _)
    have loop : ∀ (r i : Nat), i + r = A.slots.size → (∀ j, j < i → yv A j = yv B j) → Steps p.tables e below (s₁.setTop (entryFrame m #[.ref a, .ref b] 3)) (s₁.setTop (mkF m 9 #[.val (.ref a), .val (.ref b), .val (.int (Int32.ofNat i))] [])) → ∃ (pc : Nat) (Ls : Array Slot) (v : Int32), (pc = 25 ∨ pc = 33) ∧ ((v = 1 ∧ EqC A B) ∨ (v = 0 ∧ ¬ EqC A B)) ∧ Steps p.tables e below (s₁.setTop (entryFrame m #[.ref a, .ref b] 3)) (s₁.setTop (mkF m pc Ls [.int v])) := by
      intro r
      induction r with
      | zero =>
        intro i hi he cl
        exact ⟨33, _, 1, Or.inr rfl, Or.inl ⟨rfl, hs, fun j hj => he j (by omega)⟩, cl.trans (by
          refine XS.iloadN X0.here hexec rfl (hb hbytes d9) rfl ?_
          refine XS.aloadN X0.here hexec rfl (hb hbytes d10) rfl rfl ?_
          refine X0.alen hexec hA0 rfl rfl (hb hbytes d11) ?_
          refine XS.icmpYes X0.here hexec rfl (pc0 := 12) rfl (hb hbytes d12) rfl (ii_ge_t (nlt32 (by omega) (by omega))) (by decide) rfl ?_
          refine iconstV X0.here hexec rfl 1 (hb hbytes d32) (by decide) ?_
          exact Steps.refl _)⟩
      | succ r ih =>
        intro i hi he cl
        have c4 : Steps p.tables e below (s₁.setTop (entryFrame m #[.ref a, .ref b] 3)) (s₁.setTop (mkF m 21 #[.val (.ref a), .val (.ref b), .val (.int (Int32.ofNat i))] [.int (yv B i), .int (yv A i)])) := cl.trans (by
          refine XS.iloadN X0.here hexec rfl (hb hbytes d9) rfl ?_
          refine XS.aloadN X0.here hexec rfl (hb hbytes d10) rfl rfl ?_
          refine X0.alen hexec hA0 rfl rfl (hb hbytes d11) ?_
          refine XS.icmpNo X0.here hexec rfl (hb hbytes d12) rfl (ii_ge_f (lt32 (by omega) (by omega))) ?_
          refine XS.aloadN X0.here hexec rfl (hb hbytes d15) rfl rfl ?_
          refine XS.iloadN X0.here hexec rfl (hb hbytes d16) rfl ?_
          refine X0.aget hexec hA0 rfl (yv_get hA tA (i := i) (by omega)) rfl rfl (hb hbytes d17) ?_
          refine XS.aloadN X0.here hexec rfl (hb hbytes d18) rfl rfl ?_
          refine XS.iloadN X0.here hexec rfl (hb hbytes d19) rfl ?_
          refine X0.aget hexec hB0 rfl (yv_get hB tB (i := i) (by omega)) rfl rfl (hb hbytes d20) ?_
          exact Steps.refl _)
        by_cases hv : yv A i = yv B i
        · have c5 : Steps p.tables e below (s₁.setTop (entryFrame m #[.ref a, .ref b] 3)) (s₁.setTop (mkF m 9 #[.val (.ref a), .val (.ref b), .val (.int (Int32.ofNat i + 1))] [])) := c4.trans (by
            refine XS.icmpYes X0.here hexec rfl (pc0 := 21) rfl (hb hbytes d21) rfl (ii_eq_t hv) (by decide) rfl ?_
            refine iincV X0.here hexec rfl 1 (hb hbytes d26) (by decide) rfl rfl ?_
            refine XS.goto X0.here hexec rfl (pc0 := 29) rfl (hb hbytes d29) (by decide) rfl ?_
            exact Steps.refl _)
          rw [succ32] at c5
          exact ih (i + 1) (by omega) (fun j hj => by
            by_cases e : j = i
            · rw [e]; exact hv
            · exact he j (by omega)) c5
        · exact ⟨25, _, 0, Or.inl rfl, Or.inr ⟨rfl, fun q => hv (q.2 i (by omega))⟩, c4.trans (by
            refine XS.icmpNo X0.here hexec rfl (hb hbytes d21) rfl (ii_eq_f hv) ?_
            refine iconstV X0.here hexec rfl 0 (hb hbytes d24) (by decide) ?_
            exact Steps.refl _)⟩
    obtain ⟨pc, Ls, v, hpc, hv, cz⟩ := loop A.slots.size 0 (by omega) (fun j hj => absurd hj (Nat.not_lt_zero j)) c3
    have nv : narrow .boolean (.int v) = .int v := by rcases hv with ⟨rfl, -⟩ | ⟨rfl, -⟩ <;> rfl
    rcases hpc with rfl | rfl
    · exact ⟨s₁, some (.int v), _, _, _, X0, rfl, rfl, rfl, (fun h => by cases h), ⟨v, rfl, hh0, hv⟩, fun fs hl => cz.trans (X0.ireturnOut hexec hret nv (Or.inr (Or.inl rfl)) (hb hbytes d25) hl)⟩
    · exact ⟨s₁, some (.int v), _, _, _, X0, rfl, rfl, rfl, (fun h => by cases h), ⟨v, rfl, hh0, hv⟩, fun fs hl => cz.trans (X0.ireturnOut hexec hret nv (Or.inr (Or.inl rfl)) (hb hbytes d33) hl)⟩
  · have c3 : Steps p.tables e below (s₁.setTop (entryFrame m #[.ref a, .ref b] 3)) (s₁.setTop (mkF m 35 #[.val (.ref a), .val (.ref b), .unset] [.int 0])) := c2.trans (by
      refine XS.icmpYes X0.here hexec rfl (pc0 := 4) rfl (hb hbytes d4) rfl (ii_ne_t (ne32 a31 b31 hs)) (by decide) rfl ?_
      refine iconstV X0.here hexec rfl 0 (hb hbytes d34) (by decide) ?_
      exact Steps.refl _)
    exact ⟨s₁, some (.int 0), _, _, _, X0, rfl, rfl, rfl, (fun h => by cases h), ⟨0, rfl, hh0, Or.inr ⟨rfl, fun q => hs q.1⟩⟩, fun fs hl => c3.trans (X0.ireturnOut hexec hret rfl (Or.inr (Or.inl rfl)) (hb hbytes d35) hl)⟩
end LEq
theorem Cod.ty {cd : Int32} {n : Nat} {f : Nat → Int32} {V : Cell} (h : Cod cd n f V) : Typed .byte V := fun i v hv => by
  have hi : i < V.slots.size := (Array.getElem?_eq_some_iff.mp hv).1
  rcases h with ⟨-, k1, k2⟩ | ⟨-, k1, k2, -⟩
  · rw [(k2 i (by omega)).1] at hv; cases hv; exact fits_lo8 _
  · rcases Nat.mod_two_eq_zero_or_one i with e | e
    · obtain ⟨j, rfl⟩ : ∃ j, i = 2 * j := ⟨i / 2, by omega⟩
      rw [(k2 j (by omega)).1] at hv; cases hv; exact fits_lo8 _
    · obtain ⟨j, rfl⟩ : ∃ j, i = 2 * j + 1 := ⟨i / 2, by omega⟩
      rw [(k2 j (by omega)).2] at hv; cases hv; exact fits_lo8 _
/-- the same text -/
def SameT (n : Nat) (f : Nat → Int32) (k : Nat) (g : Nat → Int32) : Prop := n = k ∧ ∀ j, j < n → f j = g j
theorem lo8_inj {x y : Int32} (h0 : ¬ x < 0) (h1 : ¬ 255 < x) (k0 : ¬ y < 0) (k1 : ¬ 255 < y) (h : lo8 x = lo8 y) : x = y := by
  rw [← lo8_mask h0 h1, ← lo8_mask k0 k1, h]
/-- arrays coded by one coder are equal just where the texts are -/
theorem Cod.eqv {cd : Int32} {n k : Nat} {f g : Nat → Int32} {V V' : Cell} (h : Cod cd n f V) (h' : Cod cd k g V') (hf : ∀ j, j < n → ¬ f j < 0 ∧ ¬ 65535 < f j) (hg : ∀ j, j < k → ¬ g j < 0 ∧ ¬ 65535 < g j) : EqC V V' ↔ SameT n f k g := by
  have yvv : ∀ {W : Cell} {i : Nat} {x : Int32}, W.slots[i]? = some (.int x) → yv W i = x := fun q => by unfold yv; rw [q]
  rcases h with ⟨rfl, k1, k2⟩ | ⟨rfl, k1, k2, -⟩
  · rcases h' with ⟨-, m1, m2⟩ | ⟨e, -⟩
    · constructor
      · rintro ⟨e1, e2⟩
        refine ⟨by omega, fun j hj => ?_⟩
        have q := e2 j (by omega)
        rw [yvv (k2 j hj).1, yvv (m2 j (by omega)).1] at q
        exact lo8_inj (hf j hj).1 (k2 j hj).2 (hg j (by omega)).1 (m2 j (by omega)).2 q
      · rintro ⟨rfl, e2⟩
        refine ⟨by omega, fun j hj => ?_⟩
        rw [yvv (k2 j (by omega)).1, yvv (m2 j (by omega)).1, e2 j (by omega)]
    · exact absurd e (by decide)
  · rcases h' with ⟨e, -⟩ | ⟨-, m1, m2, -⟩
    · exact absurd e (by decide)
    · constructor
      · rintro ⟨e1, e2⟩
        refine ⟨by omega, fun j hj => ?_⟩
        have q1 := e2 (2 * j) (by omega)
        have q2 := e2 (2 * j + 1) (by omega)
        rw [yvv (k2 j hj).1, yvv (m2 j (by omega)).1] at q1
        rw [yvv (k2 j hj).2, yvv (m2 j (by omega)).2] at q2
        rw [← pair_says (hf j hj).1 (hf j hj).2, ← pair_says (hg j (by omega)).1 (hg j (by omega)).2, q1, q2]
      · rintro ⟨rfl, e2⟩
        refine ⟨by omega, fun i hi => ?_⟩
        rcases Nat.mod_two_eq_zero_or_one i with e | e
        · obtain ⟨j, rfl⟩ : ∃ j, i = 2 * j := ⟨i / 2, by omega⟩
          rw [yvv (k2 j (by omega)).1, yvv (m2 j (by omega)).1, e2 j (by omega)]
        · obtain ⟨j, rfl⟩ : ∃ j, i = 2 * j + 1 := ⟨i / 2, by omega⟩
          rw [yvv (k2 j (by omega)).2, yvv (m2 j (by omega)).2, e2 j (by omega)]
/-- two codings differ: so do the texts -/
theorem Cod.dif {cd cd' : Int32} {n k : Nat} {f g : Nat → Int32} {V V' : Cell} (h : Cod cd n f V) (h' : Cod cd' k g V') (hne : ¬ cd = cd') : ¬ SameT n f k g := by
  rintro ⟨rfl, e⟩
  rcases h with ⟨rfl, -, k2⟩ | ⟨rfl, -, -, j, hj, hw⟩
  · rcases h' with ⟨rfl, -⟩ | ⟨-, -, -, j, hj, hw⟩
    · exact hne rfl
    · exact (k2 j hj).2 (by rw [e j hj]; exact hw)
  · rcases h' with ⟨-, -, m2⟩ | ⟨rfl, -⟩
    · exact (m2 j hj).2 (by rw [← e j hj]; exact hw)
    · exact hne rfl
/-- an object of exactly C is an instance of C -/
theorem cinst {p : Program} {l : Launch} {e : Env} {R : Room} {s : State} {m : MethodId} {args : Array Value} {below : List Frame} {meth : Method} {c : Code} {T : State} {locs : List Loc} {cells slots : Nat} (X : Stand p l e R s m args below meth c T locs cells slots) (hexec : p.tables.exec = Jvm.exec) {own C : String} {index : Nat} (hown : s.vm.findClass own = some m.cls) (hlink : (Cond.classLink own index C).before args s = true) {a : Addr} (hE : Exact C a T)
    {g : JFrame} (hg : g.method = m) {rest : List Value} (hstack : g.stack = .ref a :: rest) (hdg : decode c.code g.pc = .ok (.instanceof index, 3)) :
    ∃ T', Stand p l e R s m args below meth c T' locs cells slots ∧ T'.heap = T.heap ∧ ∀ target, Steps p.tables e below (T'.setTop { g with pc := g.pc + 3, stack := .int 1 :: rest }) target → Steps p.tables e below (T.setTop g) target := by
  obtain ⟨cB, h1, D, h2, h3, h4⟩ := hE
  have h1' : s.vm.findClass C = some cB := by rw [← X.warmed.alike.findClass]; exact h1
  obtain ⟨vm', X', st⟩ := X.instanceofYes hexec hown hlink h2 h4 h1' (by rw [h3]; exact Jvm.Free.SB.assignable_self _ _) hg hstack hdg
  exact ⟨_, X', rfl, st⟩
theorem cself {p : Program} {l : Launch} {e : Env} {R : Room} {s : State} {m : MethodId} {args : Array Value} {below : List Frame} {meth : Method} {c : Code} {T : State} {locs : List Loc} {cells slots : Nat} (X : Stand p l e R s m args below meth c T locs cells slots) (hexec : p.tables.exec = Jvm.exec) {own C : String} {index : Nat} (hown : s.vm.findClass own = some m.cls) (hlink : (Cond.classLink own index C).before args s = true) {a : Addr} (hE : Exact C a T)
    {g : JFrame} (hg : g.method = m) {rest : List Value} (hstack : g.stack = .ref a :: rest) (hdg : decode c.code g.pc = .ok (.checkcast index, 3)) :
    ∃ T', Stand p l e R s m args below meth c T' locs cells slots ∧ T'.heap = T.heap ∧ ∀ target, Steps p.tables e below (T'.setTop { g with pc := g.pc + 3, stack := .ref a :: rest }) target → Steps p.tables e below (T.setTop g) target := by
  obtain ⟨cB, h1, D, h2, h3, h4⟩ := hE
  have h1' : s.vm.findClass C = some cB := by rw [← X.warmed.alike.findClass]; exact h1
  obtain ⟨vm', X', st⟩ := X.checkcastYes hexec hown hlink h2 h4 h1' (by rw [h3]; exact Jvm.Free.SB.assignable_self _ _) hg hstack hdg
  exact ⟨_, X', rfl, fun t h => st t (by rw [← hstack] at h; exact h)⟩
namespace SEq
def yN : MethodName := ⟨"java/lang/String", "equals", "(Ljava/lang/Object;)Z"⟩
abbrev yB : ByteArray := jdk_42_method_66_code
theorem d0 : decode yB 0 = .ok (.aload_n 0, 1) := by decide +kernel
theorem d1 : decode yB 1 = .ok (.aload_n 1, 1) := by decide +kernel
theorem d2 : decode yB 2 = .ok (.if_acmp (.ne) 5, 3) := by decide +kernel
theorem d5 : decode yB 5 = .ok (.iconst 1, 1) := by decide +kernel
theorem d6 : decode yB 6 = .ok (.ireturn, 1) := by decide +kernel
theorem d7 : decode yB 7 = .ok (.aload_n 1, 1) := by decide +kernel
theorem d8 : decode yB 8 = .ok (.instanceof 10, 3) := by decide +kernel
theorem d11 : decode yB 11 = .ok (.ifCond (.eq) 43, 3) := by decide +kernel
theorem d14 : decode yB 14 = .ok (.aload_n 1, 1) := by decide +kernel
theorem d15 : decode yB 15 = .ok (.checkcast 10, 3) := by decide +kernel
theorem d18 : decode yB 18 = .ok (.astore_n 2, 1) := by decide +kernel
theorem d19 : decode yB 19 = .ok (.getstatic 38, 3) := by decide +kernel
theorem d22 : decode yB 22 = .ok (.ifCond (.eq) 14, 3) := by decide +kernel
theorem d25 : decode yB 25 = .ok (.aload_n 0, 1) := by decide +kernel
theorem d26 : decode yB 26 = .ok (.getfield 15, 3) := by decide +kernel
theorem d29 : decode yB 29 = .ok (.aload_n 2, 1) := by decide +kernel
theorem d30 : decode yB 30 = .ok (.getfield 15, 3) := by decide +kernel
theorem d33 : decode yB 33 = .ok (.if_icmp (.ne) 21, 3) := by decide +kernel
theorem d36 : decode yB 36 = .ok (.aload_n 0, 1) := by decide +kernel
theorem d37 : decode yB 37 = .ok (.getfield 9, 3) := by decide +kernel
theorem d40 : decode yB 40 = .ok (.aload_n 2, 1) := by decide +kernel
theorem d41 : decode yB 41 = .ok (.getfield 9, 3) := by decide +kernel
theorem d44 : decode yB 44 = .ok (.invokestatic 541, 3) := by decide +kernel
theorem d47 : decode yB 47 = .ok (.ifCond (.eq) 7, 3) := by decide +kernel
theorem d50 : decode yB 50 = .ok (.iconst 1, 1) := by decide +kernel
theorem d51 : decode yB 51 = .ok (.goto 4, 3) := by decide +kernel
theorem d54 : decode yB 54 = .ok (.iconst 0, 1) := by decide +kernel
theorem d55 : decode yB 55 = .ok (.ireturn, 1) := by decide +kernel
def site : List Cond := [.classLink "java/lang/String" 10 "java/lang/String", .fieldLink "java/lang/String" 38 "java/lang/String" "COMPACT_STRINGS" "Z", .fieldLink "java/lang/String" 15 "java/lang/String" "coder" "B", .fieldLink "java/lang/String" 9 "java/lang/String" "value" "[B", LEq.tab] ++ staticW "java/lang/String" 541 LEq.yN
def tab : Cond := tabOf yN yB 3 (some .boolean) site
def P (x t : Addr) (V : Cell) (cd : Int32) (n : Nat) (f : Nat → Int32) (y t' : Addr) (V' : Cell) (cd' : Int32) (k : Nat) (g : Nat → Int32) (z : Int32) (args : Array Value) (s : State) : Prop := args = #[.ref x, .ref y] ∧ Txt x t V cd n f s ∧ Txt y t' V' cd' k g s ∧ StaticIs s "java/lang/String" "COMPACT_STRINGS" "Z" (.int z) ∧ ¬ z = 0
/-- equals(Object) of two Strings: whether the texts are the same -/
theorem law (l : Launch) (x t : Addr) (V : Cell) (cd : Int32) (n : Nat) (f : Nat → Int32) (y t' : Addr) (V' : Cell) (cd' : Int32) (k : Nat) (g : Nat → Int32) (z : Int32) : Law l yN 2 1 1 14 yB 3 (some .boolean) site (P x t V cd n f y t' V' cd' k g z) (Says01 (SameT n f k g)) [] 0 0 := by
  refine Law.of_walk (plainFor_of_name (by decide +kernel)) (by decide +kernel) (by decide +kernel) (by decide) (fun _ _ h => by rw [h.1]; rfl) (fun _ U U' hal hh h => ⟨h.1, h.2.1.mv hal hh, h.2.2.1.mv hal hh, h.2.2.2.1.there hal hh, h.2.2.2.2⟩) (fun r U U' V V' h1 hal h2 h => Says01.mv r U U' V V' h1 hal h2 h) ?_
  intro p e s m args below meth c s₁ X0 hexec hbytes hml hret hlk hnm hown hh0 W hP
  obtain ⟨rfl, hx, hy, s1, hz⟩ := hP
  have c1 : Steps p.tables e below (s₁.setTop (entryFrame m #[.ref x, .ref y] 3)) (s₁.setTop (mkF m 2 #[.val (.ref x), .val (.ref y), .unset] [.ref y, .ref x])) := Steps.trans (entry rfl) (by
    show Steps p.tables e below (s₁.setTop (mkF m 0 #[.val (.ref x), .val (.ref y), .unset] [])) _
    refine XS.aloadN X0.here hexec rfl (hb hbytes d0) rfl rfl ?_
    refine XS.aloadN X0.here hexec rfl (hb hbytes d1) rfl rfl ?_
    exact Steps.refl _)
  by_cases hxy : x = y
  · have c2 : Steps p.tables e below (s₁.setTop (entryFrame m #[.ref x, .ref y] 3)) (s₁.setTop (mkF m 6 #[.val (.ref x), .val (.ref y), .unset] [.int 1])) := c1.trans (by
      refine acmpNo X0.here hexec rfl (hb hbytes d2) rfl rfl rfl (by simp [acmp, hxy]) ?_
      refine iconstV X0.here hexec rfl 1 (hb hbytes d5) (by decide) ?_
      exact Steps.refl _)
    subst hxy
    have ec : cd = cd' := by
      obtain ⟨D, fd, a1, a2, a3⟩ := hx.2.2.1
      obtain ⟨D', fd', b1, b2, b3⟩ := hy.2.2.1
      cases a1.symm.trans b1
      obtain ⟨q1, q2, q3, q4⟩ := a2.1
      obtain ⟨r1, r2, r3, r4⟩ := b2.1
      cases q4.symm.trans r4
      cases a3.symm.trans b3; rfl
    have et : t = t' := by
      obtain ⟨D, fd, a1, a2, a3⟩ := hx.2.1
      obtain ⟨D', fd', b1, b2, b3⟩ := hy.2.1
      cases a1.symm.trans b1
      obtain ⟨q1, q2, q3, q4⟩ := a2.1
      obtain ⟨r1, r2, r3, r4⟩ := b2.1
      cases q4.symm.trans r4
      cases a3.symm.trans b3; rfl
    subst ec et
    have ev : V = V' := by cases hx.2.2.2.1.1.symm.trans hy.2.2.2.1.1; rfl
    subst ev
    have hs : SameT n f k g := (Cod.eqv hx.2.2.2.2.1 hy.2.2.2.2.1 hx.2.2.2.2.2 hy.2.2.2.2.2).mp ⟨rfl, fun _ _ => rfl⟩
    exact ⟨s₁, some (.int 1), _, _, _, X0, rfl, rfl, rfl, (fun h => by cases h), ⟨1, rfl, hh0, Or.inl ⟨rfl, hs⟩⟩, fun fs hl => c2.trans (X0.ireturnOut hexec hret rfl (Or.inr (Or.inl rfl)) (hb hbytes d6) hl)⟩
  · have c2 : Steps p.tables e below (s₁.setTop (entryFrame m #[.ref x, .ref y] 3)) (s₁.setTop (mkF m 8 #[.val (.ref x), .val (.ref y), .unset] [.ref y])) := c1.trans (by
      refine acmpYes X0.here hexec rfl (pc0 := 2) rfl (hb hbytes d2) rfl rfl rfl (by simp [acmp, hxy]) (by decide) rfl ?_
      refine XS.aloadN X0.here hexec rfl (hb hbytes d7) rfl rfl ?_
      exact Steps.refl _)
    obtain ⟨T3, X3, q3, st3⟩ := cinst X0 hexec hown (wk W (.classLink "java/lang/String" 10 "java/lang/String")) (hy.mv X0.warmed.alike hh0).1 (g := (mkF m 8 #[.val (.ref x), .val (.ref y), .unset] [.ref y])) rfl (rest := []) rfl (hb hbytes d8)
    have hh3 := q3.trans hh0
    have c4 : Steps p.tables e below (s₁.setTop (entryFrame m #[.ref x, .ref y] 3)) (T3.setTop (mkF m 15 #[.val (.ref x), .val (.ref y), .unset] [.ref y])) := (c2.trans (st3 _ (Steps.refl _))).trans (by
      refine XS.ifNo X3.here hexec rfl (hb hbytes d11) rfl (i0_eq_f (by decide)) ?_
      refine XS.aloadN X3.here hexec rfl (hb hbytes d14) rfl rfl ?_
      exact Steps.refl _)
    obtain ⟨T5, X5, q5, st5⟩ := cself X3 hexec hown (wk W (.classLink "java/lang/String" 10 "java/lang/String")) (hy.mv X3.warmed.alike hh3).1 (g := (mkF m 15 #[.val (.ref x), .val (.ref y), .unset] [.ref y])) rfl (rest := []) rfl (hb hbytes d15)
    have hh5 := q5.trans hh3
    have c6 : Steps p.tables e below (s₁.setTop (entryFrame m #[.ref x, .ref y] 3)) (T5.setTop (mkF m 19 #[.val (.ref x), .val (.ref y), .val (.ref y)] [])) := (c4.trans (st5 _ (Steps.refl _))).trans (by
      refine XS.astoreN X5.here hexec rfl (hb hbytes d18) rfl rfl rfl ?_
      exact Steps.refl _)
    obtain ⟨T7, X7, q7, st7⟩ := X5.sget hexec hown (wk W (.fieldLink "java/lang/String" 38 "java/lang/String" "COMPACT_STRINGS" "Z")) s1 (fun _ _ h => by rw [hh5]; exact h) (g := (mkF m 19 #[.val (.ref x), .val (.ref y), .val (.ref y)] [])) rfl (hb hbytes d19)
    have hh7 := q7.trans hh5
    have c8 : Steps p.tables e below (s₁.setTop (entryFrame m #[.ref x, .ref y] 3)) (T7.setTop (mkF m 26 #[.val (.ref x), .val (.ref y), .val (.ref y)] [.ref x])) := (c6.trans (st7 _ (Steps.refl _))).trans (by
      refine XS.ifNo X7.here hexec rfl (hb hbytes d22) rfl (i0_eq_f hz) ?_
      refine XS.aloadN X7.here hexec rfl (hb hbytes d25) rfl rfl ?_
      exact Steps.refl _)
    obtain ⟨T9, X9, q9, st9⟩ := X7.hget hexec hown (wk W (.fieldLink "java/lang/String" 15 "java/lang/String" "coder" "B")) (hx.mv X7.warmed.alike hh7).2.2.1 (g := (mkF m 26 #[.val (.ref x), .val (.ref y), .val (.ref y)] [.ref x])) rfl (rest := []) rfl (hb hbytes d26)
    have hh9 := q9.trans hh7
    have c10 : Steps p.tables e below (s₁.setTop (entryFrame m #[.ref x, .ref y] 3)) (T9.setTop (mkF m 30 #[.val (.ref x), .val (.ref y), .val (.ref y)] [.ref y, .int cd])) := (c8.trans (st9 _ (Steps.refl _))).trans (by
      refine XS.aloadN X9.here hexec rfl (hb hbytes d29) rfl rfl ?_
      exact Steps.refl _)
    obtain ⟨T11, X11, q11, st11⟩ := X9.hget hexec hown (wk W (.fieldLink "java/lang/String" 15 "java/lang/String" "coder" "B")) (hy.mv X9.warmed.alike hh9).2.2.1 (g := (mkF m 30 #[.val (.ref x), .val (.ref y), .val (.ref y)] [.ref y, .int cd])) rfl (rest := [.int cd]) rfl (hb hbytes d30)
    have hh11 := q11.trans hh9
    have c12 : Steps p.tables e below (s₁.setTop (entryFrame m #[.ref x, .ref y] 3)) (T11.setTop (mkF m 33 #[.val (.ref x), .val (.ref y), .val (.ref y)] [.int cd', .int cd])) := c10.trans (st11 _ (Steps.refl _))
    by_cases hcd : cd = cd'
    · subst hcd
      have c13 : Steps p.tables e below (s₁.setTop (entryFrame m #[.ref x, .ref y] 3)) (T11.setTop (mkF m 37 #[.val (.ref x), .val (.ref y), .val (.ref y)] [.ref x])) := c12.trans (by
        refine XS.icmpNo X11.here hexec rfl (hb hbytes d33) rfl (ii_ne_f rfl) ?_
        refine XS.aloadN X11.here hexec rfl (hb hbytes d36) rfl rfl ?_
        exact Steps.refl _)
      obtain ⟨T14, X14, q14, st14⟩ := X11.hget hexec hown (wk W (.fieldLink "java/lang/String" 9 "java/lang/String" "value" "[B")) (hx.mv X11.warmed.alike hh11).2.1 (g := (mkF m 37 #[.val (.ref x), .val (.ref y), .val (.ref y)] [.ref x])) rfl (rest := []) rfl (hb hbytes d37)
      have hh14 := q14.trans hh11
      have c15 : Steps p.tables e below (s₁.setTop (entryFrame m #[.ref x, .ref y] 3)) (T14.setTop (mkF m 41 #[.val (.ref x), .val (.ref y), .val (.ref y)] [.ref y, .ref t])) := (c13.trans (st14 _ (Steps.refl _))).trans (by
        refine XS.aloadN X14.here hexec rfl (hb hbytes d40) rfl rfl ?_
        exact Steps.refl _)
      obtain ⟨T16, X16, q16, st16⟩ := X14.hget hexec hown (wk W (.fieldLink "java/lang/String" 9 "java/lang/String" "value" "[B")) (hy.mv X14.warmed.alike hh14).2.1 (g := (mkF m 41 #[.val (.ref x), .val (.ref y), .val (.ref y)] [.ref y, .ref t])) rfl (rest := [.ref t]) rfl (hb hbytes d41)
      have hh16 := q16.trans hh14
      have c17 : Steps p.tables e below (s₁.setTop (entryFrame m #[.ref x, .ref y] 3)) (T16.setTop (mkF m 44 #[.val (.ref x), .val (.ref y), .val (.ref y)] [.ref t', .ref t])) := c15.trans (st16 _ (Steps.refl _))
      obtain ⟨v18, T18, X18, E18, g18⟩ := X16.callS hexec (LEq.law l t V t' V') hown (wks W (staticW "java/lang/String" 541 LEq.yN)) (wk W LEq.tab) (W := 0) (Nat.le_of_ble_eq_true rfl) (Nat.le_of_ble_eq_true rfl) (Nat.le_refl _) (Nat.le_refl _) (g := (mkF m 44 #[.val (.ref x), .val (.ref y), .val (.ref y)] [.ref t', .ref t])) rfl (by rw [hml]; rfl) c17 (argsL := [.ref t, .ref t']) (rest := []) rfl rfl (by show 2 * 0 + 0 ≤ _; decide) (hb hbytes d44) (⟨rfl, hx.2.2.2.1.mv X16.warmed.alike hh16, hx.2.2.2.2.1.ty, hy.2.2.2.1.mv X16.warmed.alike hh16, hy.2.2.2.2.1.ty⟩)
      obtain ⟨v, rfl, q18, hv⟩ := E18
      have iff := Cod.eqv hx.2.2.2.2.1 hy.2.2.2.2.1 hx.2.2.2.2.2 hy.2.2.2.2.2
      rcases hv with ⟨rfl, he⟩ | ⟨rfl, he⟩
      · have c19 : Steps p.tables e below (s₁.setTop (entryFrame m #[.ref x, .ref y] 3)) (T18.setTop (mkF m 55 #[.val (.ref x), .val (.ref y), .val (.ref y)] [.int 1])) := Steps.trans g18 (by
          refine XS.ifNo X18.here hexec rfl (hb hbytes d47) rfl (i0_eq_f (by decide)) ?_
          refine iconstV X18.here hexec rfl 1 (hb hbytes d50) (by decide) ?_
          refine XS.goto X18.here hexec rfl (pc0 := 51) rfl (hb hbytes d51) (by decide) rfl ?_
          exact Steps.refl _)
        exact ⟨T18, some (.int 1), _, _, _, X18, rfl, rfl, rfl, (fun h => by cases h), ⟨1, rfl, q18.trans hh16, Or.inl ⟨rfl, iff.mp he⟩⟩, fun fs hl => c19.trans (X18.ireturnOut hexec hret rfl (Or.inr (Or.inl rfl)) (hb hbytes d55) hl)⟩
      · have c19 : Steps p.tables e below (s₁.setTop (entryFrame m #[.ref x, .ref y] 3)) (T18.setTop (mkF m 55 #[.val (.ref x), .val (.ref y), .val (.ref y)] [.int 0])) := Steps.trans g18 (by
          refine XS.ifYes X18.here hexec rfl (pc0 := 47) rfl (hb hbytes d47) rfl (i0_eq_t rfl) (by decide) rfl ?_
          refine iconstV X18.here hexec rfl 0 (hb hbytes d54) (by decide) ?_
          exact Steps.refl _)
        exact ⟨T18, some (.int 0), _, _, _, X18, rfl, rfl, rfl, (fun h => by cases h), ⟨0, rfl, q18.trans hh16, Or.inr ⟨rfl, fun q => he (iff.mpr q)⟩⟩, fun fs hl => c19.trans (X18.ireturnOut hexec hret rfl (Or.inr (Or.inl rfl)) (hb hbytes d55) hl)⟩
    · have c13 : Steps p.tables e below (s₁.setTop (entryFrame m #[.ref x, .ref y] 3)) (T11.setTop (mkF m 55 #[.val (.ref x), .val (.ref y), .val (.ref y)] [.int 0])) := c12.trans (by
        refine XS.icmpYes X11.here hexec rfl (pc0 := 33) rfl (hb hbytes d33) rfl (ii_ne_t hcd) (by decide) rfl ?_
        refine iconstV X11.here hexec rfl 0 (hb hbytes d54) (by decide) ?_
        exact Steps.refl _)
      exact ⟨T11, some (.int 0), _, _, _, X11, rfl, rfl, rfl, (fun h => by cases h), ⟨0, rfl, hh11, Or.inr ⟨rfl, Cod.dif hx.2.2.2.2.1 hy.2.2.2.2.1 hcd⟩⟩, fun fs hl => c13.trans (X11.ireturnOut hexec hret rfl (Or.inr (Or.inl rfl)) (hb hbytes d55) hl)⟩
theorem pays {l : Launch} {R : Room} {p : Program} {e : Env} {below : List Frame} {s : State} {sargs : Array Value} {len W : Nat} (x t : Addr) (V : Cell) (cd : Int32) (n : Nat) (f : Nat → Int32) (y t' : Addr) (V' : Cell) (cd' : Int32) (k : Nat) (g : Nat → Int32) (z : Int32) (htab : tab.before sargs s = true) (hfr : 2 ≤ R.frames) (hlo : W + 28 ≤ R.locals) :
    Back l R p e below s sargs yN len W (fun A₁ a₁ => A₁.cells + 0 ≤ R.cells ∧ A₁.slots + 0 ≤ R.slots ∧ P x t V cd n f y t' V' cd' k g z a₁ A₁.U) (fun A₁ _ v₁ B₁ => Says01 (SameT n f k g) v₁ A₁.U B₁.U ∧ B₁.locs = A₁.locs ++ [] ∧ B₁.cells = A₁.cells + 0 ∧ B₁.slots = A₁.slots + 0) :=
  (law l x t V cd n f y t' V' cd' k g z).pays htab hfr (by omega)
end SEq
end StrChars
namespace StrChars.Road
open Jvm Sem ClassFile Op Lib Jvm.Stand Jvm.Free Jvm.Free.XT
open Jvm.Lib.Cold (StaticIs)
/-- the words of String.equals(Object) -/
abbrev wordsEq : List Jvm.Cond := [.code SEq.yN SEq.yB 3 (some .boolean), .initialized ST, .classLink ST 10 ST, .fieldLink ST 38 ST "COMPACT_STRINGS" "Z", .fieldLink ST 15 ST "coder" "B", .fieldLink ST 9 ST "value" "[B", .methodLink ST 541 LEq.yN, .static LEq.yN, .code LEq.yN LEq.yB 3 (some .boolean), .initialized "java/lang/StringLatin1"]
theorem tabEq_of {a : Array Value} {s : State} (h : ∀ w ∈ wordsEq, w.before a s = true) : SEq.tab.before a s = true := by
  have hl : LEq.tab.before a s = true := unparts (wk h (.code LEq.yN LEq.yB 3 (some .boolean))) (wks h (.initialized LEq.yN.cls :: LEq.site))
  have q := consq hl h
  exact unparts (wk q (.code SEq.yN SEq.yB 3 (some .boolean))) (wks q (.initialized SEq.yN.cls :: SEq.site))
theorem movedEq {Z s : State} {a0 args : Array Value} (hZ : Z.Warmed39 s.vm) (hw : ∀ d ∈ wordsEq, d.before a0 Z = true) : ∀ d ∈ wordsEq, d.before args s = true := fun d hd => by
  have t : ∀ d ∈ wordsEq, (d.onTables && d.keepsFace) = true := by decide +kernel
  exact RoadKit.mv hZ (hw d hd) (t d hd)
/-- the road's facts of a String, as the laws ask it -/
theorem txt_of {Z U : State} {a0 : Array Value} {kI : Nat} (wi : (Jvm.Cond.instantiable ST kI).before a0 Z = true) (al : Z.vm.Alike U.vm) {x t : Addr} {kb : ClassId} {cs : List Int32} {cd N2 : Int32} {vs : List Value} (E : RoadKit.Exa Z U.heap x ST) (V : RoadKit.Fld Z U.heap x ST "value" "[B" (.ref t)) (C : RoadKit.Fld Z U.heap x ST "coder" "B" (.int cd)) (K : RoadKit.Arv Z U.heap t kb .byte N2 vs (.int 0)) (hc : CodA cs cd N2 vs) (hb : ∀ c ∈ cs, ¬ c < 0 ∧ ¬ (65535 : Int32) < c) (l2 : cs.length ≤ 4000) :
    ∃ A, Txt x t A cd cs.length (fun j => cs.getD j 0) U := by
  obtain ⟨A, K1, K2, K3, K4, K5, K6⟩ := K
  have hcod := hc.cod (by omega) K3 K5
  obtain ⟨D, fV, fC, hB, F1, F2, g1, g2, -, -⟩ := strObj wi al E V C
  exact ⟨A, ⟨_, hB.2.2.1, D, hB.1, rfl, by cases q : D.vm <;> first | rfl | exact absurd q (hB.2.1.2 _)⟩, Has.of hB F1 g1, Has.of hB F2 g2, ⟨K1.1, State.isArrayOf_alike al K1.2.1, K1.2.2, by rcases hcod with ⟨-, q, -⟩ | ⟨-, q, -⟩ <;> omega⟩, hcod, fun j hj => by
    have e : cs.getD j 0 = cs[j] := by simp [List.getD_eq_getElem?_getD, hj]
    show ¬ cs.getD j 0 < 0 ∧ ¬ 65535 < cs.getD j 0
    rw [e]; exact hb _ (List.getElem_mem _)⟩
theorem same_list (cs ds : List Int32) : SameT cs.length (fun j => cs.getD j 0) ds.length (fun j => ds.getD j 0) ↔ cs = ds := by
  constructor
  · rintro ⟨e, q⟩
    refine List.ext_getElem e fun j h1 h2 => ?_
    have := q j h1
    simpa [List.getD_eq_getElem?_getD, h1, h2] using this
  · rintro rfl
    exact ⟨rfl, fun _ _ => rfl⟩
/-- **equals(Object) OF TWO SUCH STRINGS**: 1 just where the chars are the same -/
theorem eqW {p : Program} {l : Launch} {e : Env} {R : Room} {s : State} {args : Array Value} {below : List Frame} {len W : Nat} {Z : State} {a0 : Array Value} {h : Heap} (hZ : Z.Warmed39 s.vm) (hw : ∀ d ∈ wordsEq, d.before a0 Z = true) {kI : Nat} (wi : (Jvm.Cond.instantiable ST kI).before a0 Z = true)
    {x t : Addr} {kb : ClassId} {cs : List Int32} {cd N2 : Int32} {vs : List Value} (E : RoadKit.Exa Z h x ST) (V : RoadKit.Fld Z h x ST "value" "[B" (.ref t)) (C : RoadKit.Fld Z h x ST "coder" "B" (.int cd)) (K : RoadKit.Arv Z h t kb .byte N2 vs (.int 0)) (hc : CodA cs cd N2 vs) (hb : ∀ c ∈ cs, ¬ c < 0 ∧ ¬ (65535 : Int32) < c) (l2 : cs.length ≤ 4000)
    {y t' : Addr} {kb' : ClassId} {ds : List Int32} {cd' N2' : Int32} {vs' : List Value} (E' : RoadKit.Exa Z h y ST) (V' : RoadKit.Fld Z h y ST "value" "[B" (.ref t')) (C' : RoadKit.Fld Z h y ST "coder" "B" (.int cd')) (K' : RoadKit.Arv Z h t' kb' .byte N2' vs' (.int 0)) (hc' : CodA ds cd' N2' vs') (hb' : ∀ c ∈ ds, ¬ c < 0 ∧ ¬ (65535 : Int32) < c) (l2' : ds.length ≤ 4000)
    {z : Int32} (S : RoadKit.Sta Z h ST "COMPACT_STRINGS" "Z" (.int z)) (hz : ¬ z = 0) (hfr : 2 ≤ R.frames) (hlo : W + 28 ≤ R.locals) :
    Back l R p e below s args (⟨"java/lang/String", "equals", "(Ljava/lang/Object;)Z"⟩ : MethodName) len W (fun P a => a = #[.ref x, .ref y] ∧ P.U.heap = h ∧ P.cells + 0 ≤ R.cells ∧ P.slots + 0 ≤ R.slots)
      (fun P _ v B => ∃ L, (((v = some (.int 1) ∧ cs = ds) ∨ (v = some (.int 0) ∧ ¬ cs = ds)) ∧ L = [] ∧ B.U.heap = h) ∧ B.locs = P.locs ++ L ∧ B.cells = P.cells + 0 ∧ B.slots = P.slots + 0) := by
  intro m meth c P g ig mk a X hg hsize hdg hW hn hp'
  obtain ⟨rfl, rfl, r1, r2⟩ := hp'
  have al : Z.vm.Alike P.U.vm := hZ.alike.trans X.warmed.alike
  obtain ⟨A, hx⟩ := txt_of wi al E V C K hc hb l2
  obtain ⟨A', hy⟩ := txt_of wi al E' V' C' K' hc' hb' l2'
  obtain ⟨v, B, X', ⟨⟨w, hv, hh, hq⟩, hl, hk, hs⟩, st⟩ := SEq.pays x t A cd cs.length (fun j => cs.getD j 0) y t' A' cd' ds.length (fun j => ds.getD j 0) z (tabEq_of (movedEq hZ hw)) hfr hlo m meth c P g ig mk _ X hg hsize hdg hW hn ⟨r1, r2, rfl, hx, hy, sta_is al S, hz⟩
  refine ⟨v, B, X', ⟨[], ⟨?_, rfl, hh⟩, hl, hk, hs⟩, st⟩
  rcases hq with ⟨rfl, q⟩ | ⟨rfl, q⟩
  · exact Or.inl ⟨hv, (same_list cs ds).mp q⟩
  · exact Or.inr ⟨hv, fun e => q ((same_list cs ds).mpr e)⟩
end StrChars.Road
namespace StrChars
open Jvm Sem ClassFile Op Lib Jvm.Stand Jvm.Free.XT Jvm.Free.ALB Jvm.Free.JM Jvm.Free
open Jvm.Lib.Cold (StaticIs)
namespace ChN
def yN : MethodName := ⟨"java/lang/String", "charAt", "(I)C"⟩
abbrev yB : ByteArray := jdk_42_method_56_code
theorem d0 : decode yB 0 = .ok (.aload_n 0, 1) := by decide +kernel
theorem d1 : decode yB 1 = .ok (.invokevirtual 492, 3) := by decide +kernel
theorem d4 : decode yB 4 = .ok (.ifCond (.eq) 12, 3) := by decide +kernel
theorem d7 : decode yB 7 = .ok (.aload_n 0, 1) := by decide +kernel
theorem d8 : decode yB 8 = .ok (.getfield 9, 3) := by decide +kernel
theorem d11 : decode yB 11 = .ok (.iload_n 1, 1) := by decide +kernel
theorem d12 : decode yB 12 = .ok (.invokestatic 495, 3) := by decide +kernel
theorem d15 : decode yB 15 = .ok (.ireturn, 1) := by decide +kernel
def site : List Cond := [.fieldLink "java/lang/String" 9 "java/lang/String" "value" "[B", IsL.tab, LChA.tab] ++ virtW "java/lang/String" 492 "java/lang/String" IsL.yN IsL.yN ++ staticW "java/lang/String" 495 LChA.yN
def tab : Cond := tabOf yN yB 2 (some .char) site
def P (x t : Addr) (V : Cell) (n : Nat) (f : Nat → Int32) (z : Int32) (fm : Value) (i : Nat) (args : Array Value) (s : State) : Prop := args = #[.ref x, .int (Int32.ofNat i)] ∧ Txt x t V 0 n f s ∧ i < n ∧ StaticIs s "java/lang/String" "COMPACT_STRINGS" "Z" (.int z) ∧ ¬ z = 0 ∧ StaticIs s "jdk/internal/util/Preconditions" "SIOOBE_FORMATTER" "Ljava/util/function/BiFunction;" fm ∧ fm.isRef = true
def E (f : Nat → Int32) (i : Nat) (r : Option Value) (s u : State) : Prop := XT.PureE (some (.int (f i))) r s u
/-- charAt(i) of a Latin-1 String of n chars, i < n: f i -/
theorem law (l : Launch) (x t : Addr) (V : Cell) (n : Nat) (f : Nat → Int32) (z : Int32) (fm : Value) (i : Nat) : Law l yN 2 1 3 40 yB 2 (some .char) site (P x t V n f z fm i) (E f i) [] 0 0 := by
  refine Law.of_walk (plainFor_of_name (by decide +kernel)) (by decide +kernel) (by decide +kernel) (by decide) (fun _ _ h => by rw [h.1]; rfl) (fun _ U U' hal hh h => ⟨h.1, h.2.1.mv hal hh, h.2.2.1, h.2.2.2.1.there hal hh, h.2.2.2.2.1, h.2.2.2.2.2.1.there hal hh, h.2.2.2.2.2.2⟩) (fun r U U' V V' h1 hal h2 h => XT.PureE.mv r U U' V V' h1 hal h2 h) ?_
  intro p e s m args below meth c s₁ X0 hexec hbytes hml hret hlk hnm hown hh0 W hP
  obtain ⟨rfl, hx, hi, s1, hz, s3, rf⟩ := hP
  have v31 := hx.2.2.2.1.2.2.2
  have hr := hx.2.2.2.2.2 i hi
  have hx0 := hx.mv X0.warmed.alike hh0
  have c1 : Steps p.tables e below (s₁.setTop (entryFrame m #[.ref x, .int (Int32.ofNat i)] 2)) (s₁.setTop (mkF m 1 #[.val (.ref x), .val (.int (Int32.ofNat i))] [.ref x])) := Steps.trans (entry rfl) (by
    show Steps p.tables e below (s₁.setTop (mkF m 0 #[.val (.ref x), .val (.int (Int32.ofNat i))] [])) _
    refine XS.aloadN X0.here hexec rfl (hb hbytes d0) rfl rfl ?_
    exact Steps.refl _)
  obtain ⟨v2, T2, X2, E2, g2⟩ := X0.callV hexec (IsL.law l x 0 z) hown (wks W (virtW "java/lang/String" 492 "java/lang/String" IsL.yN IsL.yN)) rfl (by decide) (wk W IsL.tab) (W := 0) (Nat.le_of_ble_eq_true rfl) (Nat.le_of_ble_eq_true rfl) (Nat.le_refl _) (Nat.le_refl _) (hx0.1.fc X0.warmed.alike) hx0.1.is (g := (mkF m 1 #[.val (.ref x), .val (.int (Int32.ofNat i))] [.ref x])) rfl (by rw [hml]; rfl) c1 (argsL := []) (rest := []) rfl rfl (by show 2 * 0 + 0 ≤ _; decide) (hb hbytes d1) (⟨rfl, hx0.2.2.1, hx.2.2.2.2.1.cd, s1.there X0.warmed.alike hh0, hz⟩)
  obtain ⟨rfl, q2⟩ := E2
  have hh2 := q2.trans hh0
  have hx2 := hx.mv X2.warmed.alike hh2
  obtain ⟨-, k1, k2⟩ | ⟨k0, -⟩ := hx.2.2.2.2.1
  · have c3 : Steps p.tables e below (s₁.setTop (entryFrame m #[.ref x, .int (Int32.ofNat i)] 2)) (T2.setTop (mkF m 8 #[.val (.ref x), .val (.int (Int32.ofNat i))] [.ref x])) := Steps.trans g2 (by
      refine XS.ifNo X2.here hexec rfl (hb hbytes d4) rfl (i0_eq_f (by decide)) ?_
      refine XS.aloadN X2.here hexec rfl (hb hbytes d7) rfl rfl ?_
      exact Steps.refl _)
    obtain ⟨T4, X4, q4, st4⟩ := X2.hget hexec hown (wk W (.fieldLink "java/lang/String" 9 "java/lang/String" "value" "[B")) hx2.2.1 (g := (mkF m 8 #[.val (.ref x), .val (.int (Int32.ofNat i))] [.ref x])) rfl (rest := []) rfl (hb hbytes d8)
    have hh4 := q4.trans hh2
    have c5 : Steps p.tables e below (s₁.setTop (entryFrame m #[.ref x, .int (Int32.ofNat i)] 2)) (T4.setTop (mkF m 12 #[.val (.ref x), .val (.int (Int32.ofNat i))] [.int (Int32.ofNat i), .ref t])) := (c3.trans (st4 _ (Steps.refl _))).trans (by
      refine XS.iloadN X4.here hexec rfl (hb hbytes d11) rfl ?_
      exact Steps.refl _)
    obtain ⟨v6, T6, X6, E6, g6⟩ := X4.callS hexec (LChA.law l t V i (lo8 (f i)) fm) hown (wks W (staticW "java/lang/String" 495 LChA.yN)) (wk W LChA.tab) (W := 0) (Nat.le_of_ble_eq_true rfl) (Nat.le_of_ble_eq_true rfl) (Nat.le_refl _) (Nat.le_refl _) (g := (mkF m 12 #[.val (.ref x), .val (.int (Int32.ofNat i))] [.int (Int32.ofNat i), .ref t])) rfl (by rw [hml]; rfl) c5 (argsL := [.ref t, .int (Int32.ofNat i)]) (rest := []) rfl rfl (by show 2 * 0 + 0 ≤ _; decide) (hb hbytes d12) (⟨rfl, hx.2.2.2.1.mv X4.warmed.alike hh4, (k2 i hi).1, s3.there X4.warmed.alike hh4, rf⟩)
    obtain ⟨rfl, q6⟩ := E6
    rw [chr8_lo8 hr.1 (k2 i hi).2] at g6
    exact ⟨T6, some (.int (f i)), _, _, _, X6, rfl, rfl, rfl, (fun h => by cases h), ⟨rfl, q6.trans hh4⟩, fun fs hl => Steps.trans g6 (X6.ireturnOut hexec hret (narrow_ch hr.1 hr.2) (Or.inr (Or.inr (Or.inr (Or.inl rfl)))) (hb hbytes d15) hl)⟩
  · exact absurd k0 (by decide)
theorem pays {l : Launch} {R : Room} {p : Program} {e : Env} {below : List Frame} {s : State} {sargs : Array Value} {len W : Nat} (x t : Addr) (V : Cell) (n : Nat) (f : Nat → Int32) (z : Int32) (fm : Value) (i : Nat) (htab : tab.before sargs s = true) (hfr : 4 ≤ R.frames) (hlo : W + 53 ≤ R.locals) :
    Back l R p e below s sargs yN len W (fun A₁ a₁ => A₁.cells + 0 ≤ R.cells ∧ A₁.slots + 0 ≤ R.slots ∧ P x t V n f z fm i a₁ A₁.U) (fun A₁ _ v₁ B₁ => E f i v₁ A₁.U B₁.U ∧ B₁.locs = A₁.locs ++ [] ∧ B₁.cells = A₁.cells + 0 ∧ B₁.slots = A₁.slots + 0) :=
  (law l x t V n f z fm i).pays htab hfr (by omega)
end ChN
end StrChars
namespace StrChars.Road
open Jvm Sem ClassFile Op Lib Jvm.Stand Jvm.Free Jvm.Free.XT
open Jvm.Lib.Cold (StaticIs)
/-- the words of String.charAt(int), the Latin-1 road alone -/
abbrev wordsChN : List Jvm.Cond := [.code ChN.yN ChN.yB 2 (some .char), .initialized ST, .fieldLink ST 9 ST "value" "[B", .fieldLink ST 38 ST "COMPACT_STRINGS" "Z", .fieldLink ST 15 ST "coder" "B", .code IsL.yN IsL.yB 1 (some .boolean), .methodLink ST 492 IsL.yN, .declares IsL.yN, .selects ST IsL.yN IsL.yN, .instanceMethod IsL.yN,
  .methodLink ST 495 LChA.yN, .static LChA.yN, .code LChA.yN LChA.yB 2 (some .char), .initialized "java/lang/StringLatin1", .methodLink "java/lang/StringLatin1" 9 JO.Str_checkIndex.yN, .static JO.Str_checkIndex.yN, .code JO.Str_checkIndex.yN JO.Str_checkIndex.yB 2 none,
  .fieldLink ST 1053 "jdk/internal/util/Preconditions" "SIOOBE_FORMATTER" "Ljava/util/function/BiFunction;", .methodLink ST 1059 JC.PreCheck.yN, .static JC.PreCheck.yN, .code JC.PreCheck.yN JC.PreCheck.yB 3 (some .int), .initialized "jdk/internal/util/Preconditions"]
theorem tabChN_of {a : Array Value} {s : State} (h : ∀ w ∈ wordsChN, w.before a s = true) : ChN.tab.before a s = true := by
  have hp : JC.PreCheck.tab.before a s = true := unparts (wk h (.code JC.PreCheck.yN JC.PreCheck.yB 3 (some .int))) (wks h (.initialized JC.PreCheck.yN.cls :: JC.PreCheck.site))
  have qk := consq hp h
  have hk : JO.Str_checkIndex.tab.before a s = true := unparts (wk qk (.code JO.Str_checkIndex.yN JO.Str_checkIndex.yB 2 none)) (wks qk (.initialized JO.Str_checkIndex.yN.cls :: JO.Str_checkIndex.site))
  have ql := consq hk h
  have hl : LChA.tab.before a s = true := unparts (wk ql (.code LChA.yN LChA.yB 2 (some .char))) (wks ql (.initialized LChA.yN.cls :: LChA.site))
  have hi : IsL.tab.before a s = true := unparts (wk h (.code IsL.yN IsL.yB 1 (some .boolean))) (wks h (.initialized IsL.yN.cls :: IsL.site))
  have q := consq hi (consq hl h)
  exact unparts (wk q (.code ChN.yN ChN.yB 2 (some .char))) (wks q (.initialized ChN.yN.cls :: ChN.site))
theorem movedChN {Z s : State} {a0 args : Array Value} (hZ : Z.Warmed39 s.vm) (hw : ∀ d ∈ wordsChN, d.before a0 Z = true) : ∀ d ∈ wordsChN, d.before args s = true := fun d hd => by
  have t : ∀ d ∈ wordsChN, (d.onTables && d.keepsFace) = true := by decide +kernel
  exact RoadKit.mv hZ (hw d hd) (t d hd)
/-- **charAt(i) OF A LATIN-1 STRING**, i < n: the char -/
theorem chN {p : Program} {l : Launch} {e : Env} {R : Room} {s : State} {args : Array Value} {below : List Frame} {len W : Nat} {Z : State} {a0 : Array Value} {h : Heap} (hZ : Z.Warmed39 s.vm) (hw : ∀ d ∈ wordsChN, d.before a0 Z = true) {kI : Nat} (wi : (Jvm.Cond.instantiable ST kI).before a0 Z = true)
    {x t : Addr} {kb : ClassId} {cs : List Int32} {N2 z : Int32} {vs : List Value} {fm : Value} {i : Nat} {j : Int32} (E : RoadKit.Exa Z h x ST) (V : RoadKit.Fld Z h x ST "value" "[B" (.ref t)) (C : RoadKit.Fld Z h x ST "coder" "B" (.int 0)) (K : RoadKit.Arv Z h t kb .byte N2 vs (.int 0)) (hc : CodA cs 0 N2 vs) (hb : ∀ c ∈ cs, ¬ c < 0 ∧ ¬ (65535 : Int32) < c)
    (S : RoadKit.Sta Z h ST "COMPACT_STRINGS" "Z" (.int z)) (hz : ¬ z = 0) (F : RoadKit.Sta Z h "jdk/internal/util/Preconditions" "SIOOBE_FORMATTER" "Ljava/util/function/BiFunction;" fm) (rf : fm.isRef = true) (l2 : cs.length ≤ 4000) (hi : i < cs.length) (hj : j = Int32.ofNat i) (hfr : 4 ≤ R.frames) (hlo : W + 53 ≤ R.locals) :
    Back l R p e below s args (⟨"java/lang/String", "charAt", "(I)C"⟩ : MethodName) len W (fun P a => a = #[.ref x, .int j] ∧ P.U.heap = h ∧ P.cells + 0 ≤ R.cells ∧ P.slots + 0 ≤ R.slots)
      (fun P _ v B => ∃ L, (v = some (.int (cs.getD i 0)) ∧ L = [] ∧ B.U.heap = h) ∧ B.locs = P.locs ++ L ∧ B.cells = P.cells + 0 ∧ B.slots = P.slots + 0) := by
  subst hj
  intro m meth c P g ig mk a X hg hsize hdg hW hn hp'
  obtain ⟨rfl, rfl, r1, r2⟩ := hp'
  have al : Z.vm.Alike P.U.vm := hZ.alike.trans X.warmed.alike
  obtain ⟨A, hx⟩ := txt_of wi al E V C K hc hb l2
  obtain ⟨v, B, X', ⟨⟨hv, hh⟩, hl, hk, hs⟩, st⟩ := ChN.pays x t A cs.length (fun j => cs.getD j 0) z fm i (tabChN_of (movedChN hZ hw)) hfr hlo m meth c P g ig mk _ X hg hsize hdg hW hn ⟨r1, r2, rfl, hx, hi, sta_is al S, hz, sta_is al F, rf⟩
  exact ⟨v, B, X', ⟨[], ⟨hv, rfl, hh⟩, hl, hk, hs⟩, st⟩
/-- what backV says of its String, as the contracts of this text ask it: cs's low bytes, coder 0 -/
theorem codOf {cs : List Int32} {n : Nat} (hn : cs.length = n) (hb : ∀ c ∈ cs, ¬ 255 < c) : CodA cs 0 (Int32.ofNat n) ((cs.map lo8).map Value.int) := Or.inl ⟨rfl, by rw [hn], by simp [List.map_map, Function.comp_def], hb⟩
end StrChars.Road
end Jvm.Pilot.@@N@@

/-! own layer 2: Strings as one fact (Str), and the pasted String laws in continuation form -/
namespace Jvm.Pilot.@@N@@
open Jvm Jvm.ClassFile Sem Op Lib Jvm.Free Jvm.Stand Jvm.LawKit Jvm.RoadKit Bundle Jvm.OwnKit
abbrev STR : String := "java/lang/String"
def Str (Z : State) (h : Heap) (a : Addr) (cs : List Int32) : Prop := ∃ (t : Addr) (kb : ClassId) (cd N : Int32) (vs : List Value), Exa Z h a STR ∧ Fld Z h a STR "value" "[B" (.ref t) ∧ Fld Z h a STR "coder" "B" (.int cd) ∧ Arv Z h t kb .byte N vs (.int 0) ∧ StrChars.Road.CodA cs cd N vs ∧ (∀ c ∈ cs, ¬ c < 0 ∧ ¬ (65535 : Int32) < c) ∧ cs.length ≤ 4000
theorem Str.exa {Z : State} {h : Heap} {a : Addr} {cs : List Int32} (F : Str Z h a cs) : Exa Z h a STR := by obtain ⟨_, _, _, _, _, h1, _⟩ := F; exact h1
theorem Str.keep {Z : State} {h h' : Heap} {a : Addr} {cs : List Int32} (F : Str Z h a cs) (K : Keep h h' []) : Str Z h' a cs := by
  obtain ⟨t, kb, cd, N, vs, h1, h2, h3, h4, r⟩ := F
  exact ⟨t, kb, cd, N, vs, h1.keep K, h2.keep K nin0, h3.keep K nin0, h4.keep K nin0, r⟩
theorem up16 {c : Int32} (h : ¬ c < 0 ∧ ¬ (255 : Int32) < c) : ¬ c < 0 ∧ ¬ (65535 : Int32) < c := ⟨h.1, fun q => h.2 (Int32.lt_trans (by decide) q)⟩
section SLaws
variable {nw : Bool} {EL : List (String × Nat)} {Z : State} {a0 : Array Value} {own : String} {bytes : ByteArray} {maxL : Nat} {ret : Option FieldType} {nm : String}
  {p : Program} {l : Launch} {e : Env} {R : Room} {s : State} {m : MethodId} {args : Array Value} {below : List Frame} {meth : Method} {c : Code} {T T' : State} {h h' : Heap} {S : List Addr} {cells slots cells' slots' : Nat}
  {P : Outcome → State → Prop} {pc pc' : Nat} {Ls Ls' : Array Slot} {st : List Value}
theorem wStrNew (w : Wk nw EL Z a0 own bytes maxL ret nm p l e R s m args below meth c T h S cells slots) (hws : ∀ d ∈ StrChars.Road.words, d.before a0 Z = true) (wi : (Jvm.Cond.instantiable STR 4).before a0 Z = true) {index : Nat} (w1 : (Jvm.Cond.methodLink own index (⟨"java/lang/String", "<init>", "([C)V"⟩ : MethodName)).before a0 Z = true) (w2 : (Jvm.Cond.instanceMethod (⟨"java/lang/String", "<init>", "([C)V"⟩ : MethodName)).before a0 Z = true)
    {x b : Addr} {kC : ClassId} {cs : List Int32} {d v0 c0 : Value} {z N : Int32} (n : Nat) (hxS : x ∈ S) (hn0' : Z.heap.size ≤ x) (E : Exa Z h x STR) (V : Fld Z h x STR "value" "[B" v0) (C : Fld Z h x STR "coder" "B" c0) (A : Arv Z h b kC .char N (cs.map Value.int) d) (S0 : Sta Z Z.heap STR "COMPACT_STRINGS" "Z" (.int z)) (hz : ¬ z = 0)
    (hn : cs.length = n) (hN : N = Int32.ofNat n) (l0 : 0 < n) (l2 : n ≤ 4000) (hcs : ∀ c ∈ cs, ¬ c < 0 ∧ ¬ (255 : Int32) < c) (rest : List Value) (hsz : Ls.size = maxL) {WW : Nat} (hW : (rest.map fun v => v.category).sum ≤ WW) (hfr : 4 ≤ R.frames) (hlo : WW + 65 ≤ R.locals) (hc : cells + 1 ≤ R.cells) (hs : slots + n ≤ R.slots)
    (hd : decode bytes pc = .ok (.invokespecial index, 3)) (hp : pc + 3 = pc')
    (K : ∀ T' h', Wk nw EL Z a0 own bytes maxL ret nm p l e R s m args below meth c T' h' S (cells + 1) (slots + n) → Keep h h' [x] → Str Z h' x cs → Go p e below P (T'.setTop (mkF m pc' Ls rest))) : Go p e below P (T.setTop (mkF m pc Ls (.ref b :: .ref x :: rest))) := by
  have w' := w
  obtain ⟨⟨locs, X, N'⟩, eT, hZ, hown, ⟨k0, hS, hk⟩, hC, hSf, hnw, hEL, ⟨hx, hby, hml, hret, hnm, hlk⟩, hn0⟩ := w
  subst hp
  have hZ' : Z.Warmed39 (s.setVm T.vm).vm := hZ
  obtain ⟨v, vm₁, ⟨T', Lc, kc, nc⟩, hW₁, X', hpost, hst⟩ := X.specialBack (s := s.setVm T.vm) hx (y := (⟨"java/lang/String", "<init>", "([C)V"⟩ : MethodName)) rfl hown (mvT hZ' w1) (mvT hZ' w2) (mvT hZ' (hws _ (List.mem_cons_self ..))) (by decide)
    (StrChars.Road.backV (W := WW) hZ' hws (kI := 4) wi (cs := cs) (bs := cs.map (fun c => c.toInt8.toInt32)) (n := n) hn0' hn0.1 E V C A (S0.ext hn0) hz hn hN l0 l2 hcs rfl hfr hlo)
    (g := mkF m pc Ls (.ref b :: .ref x :: rest)) rfl (hsz.trans hml.symm) (Steps.refl _) (a := x) (argsL := [.ref b]) (rest := rest) (lenOf (ps := [.array .char]) (r := none) (by decide +kernel) rfl) rfl (by show 2 * 0 + _ ≤ _; omega) (hb hby hd) (fun _ _ => ⟨rfl, eT, hc, hs⟩)
  dsimp only [Pt.U, Pt.locs, Pt.cells, Pt.slots] at X' hpost hst
  obtain ⟨L, ⟨rfl, hFr, hKp, f1, f2, t, kb, -, -, -, f3, f4⟩, hL, hce, hsl⟩ := hpost
  subst hL hce hsl
  exact (K T' T'.heap (w'.next X' (Fr.app N' hFr) rfl hKp (oneSafe hn0' (w'.safe hxS))) hKp ⟨t, kb, 0, N, _, f1, f3, f2, f4, hN ▸ StrChars.Road.codOf hn (fun c hc => (hcs c hc).2), fun c hc => up16 (hcs c hc), hn ▸ l2⟩).st fun t k => hst.trans k
end SLaws
theorem m255 (x : Int32) : ¬ (x &&& 255) < 0 ∧ ¬ (255 : Int32) < (x &&& 255) := by
  have q := c_and x 255 (by decide)
  simp only [Int32.lt_iff_toInt_lt]
  have e1 : (0 : Int32).toInt = 0 := by decide
  have e2 : (255 : Int32).toInt = 255 := by decide
  rw [e1, e2]; rw [e2] at q; omega
theorem cs0 {P : Int32 → Prop} : ∀ c ∈ ([] : List Int32), P c := fun _ q => nomatch q
theorem csS {P : Int32 → Prop} {y : Int32} {L : List Int32} (q : P y) (r : ∀ c ∈ L, P c) : ∀ c ∈ y :: L, P c := fun c z => (List.mem_cons.mp z).elim (fun u => u ▸ q) (r c)
theorem lo8_lo8 (x : Int32) : nar .byte (x.toInt8.toInt32) = StrChars.lo8 x := by
  show (x.toInt8.toInt32).toInt8.toInt32 = x.toInt8.toInt32
  simp
theorem bnd {x : Int32} {n : Int} (h : 0 ≤ x.toInt) (h' : x.toInt ≤ n) (hn : n ≤ 255) : ¬ x < 0 ∧ ¬ (255 : Int32) < x := by
  have e1 : (0 : Int32).toInt = 0 := by decide
  have e2 : (255 : Int32).toInt = 255 := by decide
  simp only [Int32.lt_iff_toInt_lt, e1, e2]; omega
theorem i2c_small {x : Int32} (h : ¬ x < 0 ∧ ¬ (255 : Int32) < x) : x.toUInt32.toUInt16.toUInt32.toInt32 = x := by
  have e1 : (0 : Int32).toInt = 0 := by decide
  have e2 : (255 : Int32).toInt = 255 := by decide
  simp only [Int32.lt_iff_toInt_lt, e1, e2] at h
  have q := c_i2c x
  exact Int32.toInt_inj.mp (by omega)
theorem m255L (x : Int64) : ¬ ((x &&& 255).toInt32) < 0 ∧ ¬ (255 : Int32) < ((x &&& 255).toInt32) := by
  have q : 0 ≤ (x &&& 255).toInt ∧ (x &&& 255).toInt ≤ 255 := by
    have e := c_maskL x 255 8 (by decide) (by decide)
    rw [e]; omega
  have r := c_l2i (x &&& 255)
  have s := rng32 (x &&& 255).toInt32
  exact bnd (n := 255) (by omega) (by omega) (by decide)
section SLaws2
variable {nw : Bool} {EL : List (String × Nat)} {Z : State} {a0 : Array Value} {own : String} {bytes : ByteArray} {maxL : Nat} {ret : Option FieldType} {nm : String}
  {p : Program} {l : Launch} {e : Env} {R : Room} {s : State} {m : MethodId} {args : Array Value} {below : List Frame} {meth : Method} {c : Code} {T T' : State} {h h' : Heap} {S : List Addr} {cells slots cells' slots' : Nat}
  {P : Outcome → State → Prop} {pc pc' : Nat} {Ls Ls' : Array Slot} {st : List Value}
theorem wStrEq (w : Wk nw EL Z a0 own bytes maxL ret nm p l e R s m args below meth c T h S cells slots) (hws : ∀ d ∈ StrChars.Road.wordsEq, d.before a0 Z = true) (wi : (Jvm.Cond.instantiable STR 4).before a0 Z = true) {index : Nat} (w1 : (Jvm.Cond.methodLink own index (⟨"java/lang/String", "equals", "(Ljava/lang/Object;)Z"⟩ : MethodName)).before a0 Z = true) (w2 : (Jvm.Cond.declares (⟨"java/lang/String", "equals", "(Ljava/lang/Object;)Z"⟩ : MethodName)).before a0 Z = true) (w5 : (Jvm.Cond.selects "java/lang/String" (⟨"java/lang/String", "equals", "(Ljava/lang/Object;)Z"⟩ : MethodName) (⟨"java/lang/String", "equals", "(Ljava/lang/Object;)Z"⟩ : MethodName)).before a0 Z = true) (w6 : (Jvm.Cond.instanceMethod (⟨"java/lang/String", "equals", "(Ljava/lang/Object;)Z"⟩ : MethodName)).before a0 Z = true)
    {x : Addr} {cs : List Int32} (F : Str Z h x cs) {y : Addr} {ds : List Int32} (F' : Str Z h y ds) {z0 : Int32} (S0 : Sta Z Z.heap STR "COMPACT_STRINGS" "Z" (.int z0)) (hz : ¬ z0 = 0) (rest : List Value) (hsz : Ls.size = maxL) {WW : Nat} (hW : (rest.map fun v => v.category).sum ≤ WW) (hfr : 2 ≤ R.frames) (hlo : WW + 28 ≤ R.locals) (hc : cells ≤ R.cells) (hs : slots ≤ R.slots)
    (hd : decode bytes pc = .ok (.invokevirtual index, 3)) (hp : pc + 3 = pc')
    (K : ∀ T' (z : Int32), Wk nw EL Z a0 own bytes maxL ret nm p l e R s m args below meth c T' h S cells slots → ((z = 1 ∧ cs = ds) ∨ (z = 0 ∧ ¬ cs = ds)) → Go p e below P (T'.setTop (mkF m pc' Ls (.int z :: rest)))) : Go p e below P (T.setTop (mkF m pc Ls (.ref y :: .ref x :: rest))) := by
  have w' := w
  obtain ⟨⟨locs, X, N'⟩, eT, hZ, hown, ⟨k0, hS, hk⟩, hC, hSf, hnw, hEL, ⟨hx, hby, hml, hret, hnm, hlk⟩, hn0⟩ := w
  subst hp
  have hZ' : Z.Warmed39 (s.setVm T.vm).vm := hZ
  obtain ⟨cq, kq, qa, qb, qc⟩ := isOf (s := s.setVm T.vm) hZ' eT F.exa
  obtain ⟨t, kb, cd, N, vs, f1, f2, f3, f4, f5, f6, f7⟩ := F
  obtain ⟨t', kb', cd', N2', vs', g1, g2, g3, g4, g5, g6, g7⟩ := F'
  obtain ⟨v, vm₁, ⟨T', Lc, kc, nc⟩, hW₁, X', hpost, hst⟩ := X.virtualBack (s := s.setVm T.vm) hx (y := (⟨"java/lang/String", "equals", "(Ljava/lang/Object;)Z"⟩ : MethodName)) (z := (⟨"java/lang/String", "equals", "(Ljava/lang/Object;)Z"⟩ : MethodName)) hown (mvT hZ' w1) (mvT hZ' w2) (notFace_of_selects (args := #[]) (mvT hZ' w5)) (mvT hZ' w5) (mvT hZ' w6) (by decide)
    (StrChars.Road.eqW (W := WW) hZ' hws (kI := 4) wi f1 f2 f3 f4 f5 f6 f7 g1 g2 g3 g4 g5 g6 g7 (S0.ext hn0) hz hfr hlo) qa qc
    (g := mkF m pc Ls (.ref y :: .ref x :: rest)) rfl (hsz.trans hml.symm) (Steps.refl _) (argsL := [.ref y]) (rest := rest) (lenOf (ps := [.object "java/lang/Object"]) (r := some .boolean) (by decide +kernel) rfl) rfl (by show 2 * 0 + _ ≤ _; omega) (hb hby hd) (fun _ _ => ⟨rfl, eT, hc, hs⟩)
  dsimp only [Pt.U, Pt.locs, Pt.cells, Pt.slots] at X' hpost hst
  obtain ⟨L, ⟨hv, rfl, hh⟩, hL, hce, hsl⟩ := hpost
  rw [List.append_nil] at hL
  subst hL hce hsl
  have w2' := w'.next X' N' (h' := h) hh (Keep.refl h []) noSafe
  rcases hv with ⟨rfl, q⟩ | ⟨rfl, q⟩
  · exact (K T' 1 w2' (Or.inl ⟨rfl, q⟩)).st fun t k => hst.trans k
  · exact (K T' 0 w2' (Or.inr ⟨rfl, q⟩)).st fun t k => hst.trans k
theorem wStrLen (w : Wk nw EL Z a0 own bytes maxL ret nm p l e R s m args below meth c T h S cells slots) (hws : ∀ d ∈ StrChars.Road.wordsLen, d.before a0 Z = true) (wi : (Jvm.Cond.instantiable STR 4).before a0 Z = true) {index : Nat} (w1 : (Jvm.Cond.methodLink own index (⟨"java/lang/String", "length", "()I"⟩ : MethodName)).before a0 Z = true) (w2 : (Jvm.Cond.declares (⟨"java/lang/String", "length", "()I"⟩ : MethodName)).before a0 Z = true) (w5 : (Jvm.Cond.selects "java/lang/String" (⟨"java/lang/String", "length", "()I"⟩ : MethodName) (⟨"java/lang/String", "length", "()I"⟩ : MethodName)).before a0 Z = true) (w6 : (Jvm.Cond.instanceMethod (⟨"java/lang/String", "length", "()I"⟩ : MethodName)).before a0 Z = true)
    {x : Addr} {cs : List Int32} (F : Str Z h x cs)  {z0 : Int32} (S0 : Sta Z Z.heap STR "COMPACT_STRINGS" "Z" (.int z0)) (hz : ¬ z0 = 0) (rest : List Value) (hsz : Ls.size = maxL) {WW : Nat} (hW : (rest.map fun v => v.category).sum ≤ WW) (hfr : 2 ≤ R.frames) (hlo : WW + 25 ≤ R.locals) (hc : cells ≤ R.cells) (hs : slots ≤ R.slots)
    (hd : decode bytes pc = .ok (.invokevirtual index, 3)) (hp : pc + 3 = pc')
    (K : ∀ T' (z : Int32), Wk nw EL Z a0 own bytes maxL ret nm p l e R s m args below meth c T' h S cells slots → z = Int32.ofNat cs.length → Go p e below P (T'.setTop (mkF m pc' Ls (.int z :: rest)))) : Go p e below P (T.setTop (mkF m pc Ls (.ref x :: rest))) := by
  have w' := w
  obtain ⟨⟨locs, X, N'⟩, eT, hZ, hown, ⟨k0, hS, hk⟩, hC, hSf, hnw, hEL, ⟨hx, hby, hml, hret, hnm, hlk⟩, hn0⟩ := w
  subst hp
  have hZ' : Z.Warmed39 (s.setVm T.vm).vm := hZ
  obtain ⟨cq, kq, qa, qb, qc⟩ := isOf (s := s.setVm T.vm) hZ' eT F.exa
  obtain ⟨t, kb, cd, N, vs, f1, f2, f3, f4, f5, f6, f7⟩ := F
  obtain ⟨v, vm₁, ⟨T', Lc, kc, nc⟩, hW₁, X', hpost, hst⟩ := X.virtualBack (s := s.setVm T.vm) hx (y := (⟨"java/lang/String", "length", "()I"⟩ : MethodName)) (z := (⟨"java/lang/String", "length", "()I"⟩ : MethodName)) hown (mvT hZ' w1) (mvT hZ' w2) (notFace_of_selects (args := #[]) (mvT hZ' w5)) (mvT hZ' w5) (mvT hZ' w6) (by decide)
    (StrChars.Road.lenW (W := WW) hZ' hws (kI := 4) wi f1 f2 f3 f4 f5 f6 (S0.ext hn0) hz f7 hfr hlo) qa qc
    (g := mkF m pc Ls (.ref x :: rest)) rfl (hsz.trans hml.symm) (Steps.refl _) (argsL := []) (rest := rest) (lenOf (ps := []) (r := some .int) (by decide +kernel) rfl) rfl (by show 2 * 0 + _ ≤ _; omega) (hb hby hd) (fun _ _ => ⟨rfl, eT, hc, hs⟩)
  dsimp only [Pt.U, Pt.locs, Pt.cells, Pt.slots] at X' hpost hst
  obtain ⟨L, ⟨rfl, rfl, hh⟩, hL, hce, hsl⟩ := hpost
  rw [List.append_nil] at hL
  subst hL hce hsl
  exact (K T' _ (w'.next X' N' (h' := h) hh (Keep.refl h []) noSafe) rfl).st fun t k => hst.trans k
theorem wStrChr (w : Wk nw EL Z a0 own bytes maxL ret nm p l e R s m args below meth c T h S cells slots) (hws : ∀ d ∈ StrChars.Road.wordsChN, d.before a0 Z = true) (wi : (Jvm.Cond.instantiable STR 4).before a0 Z = true) {index : Nat} (w1 : (Jvm.Cond.methodLink own index (⟨"java/lang/String", "charAt", "(I)C"⟩ : MethodName)).before a0 Z = true) (w2 : (Jvm.Cond.declares (⟨"java/lang/String", "charAt", "(I)C"⟩ : MethodName)).before a0 Z = true) (w5 : (Jvm.Cond.selects "java/lang/String" (⟨"java/lang/String", "charAt", "(I)C"⟩ : MethodName) (⟨"java/lang/String", "charAt", "(I)C"⟩ : MethodName)).before a0 Z = true) (w6 : (Jvm.Cond.instanceMethod (⟨"java/lang/String", "charAt", "(I)C"⟩ : MethodName)).before a0 Z = true)
    {x : Addr} {cs : List Int32} (F : Str Z h x cs) {i : Nat} {j : Int32} {fm : Value} (hlat : ∀ c ∈ cs, ¬ (255 : Int32) < c) (Ff : Sta Z Z.heap "jdk/internal/util/Preconditions" "SIOOBE_FORMATTER" "Ljava/util/function/BiFunction;" fm) (rf : fm.isRef = true) (hi : i < cs.length) (hj : j = Int32.ofNat i) {z0 : Int32} (S0 : Sta Z Z.heap STR "COMPACT_STRINGS" "Z" (.int z0)) (hz : ¬ z0 = 0) (rest : List Value) (hsz : Ls.size = maxL) {WW : Nat} (hW : (rest.map fun v => v.category).sum ≤ WW) (hfr : 4 ≤ R.frames) (hlo : WW + 53 ≤ R.locals) (hc : cells ≤ R.cells) (hs : slots ≤ R.slots)
    (hd : decode bytes pc = .ok (.invokevirtual index, 3)) (hp : pc + 3 = pc')
    (K : ∀ T' (z : Int32), Wk nw EL Z a0 own bytes maxL ret nm p l e R s m args below meth c T' h S cells slots → z = cs.getD i 0 → Go p e below P (T'.setTop (mkF m pc' Ls (.int z :: rest)))) : Go p e below P (T.setTop (mkF m pc Ls (.int j :: .ref x :: rest))) := by
  have w' := w
  obtain ⟨⟨locs, X, N'⟩, eT, hZ, hown, ⟨k0, hS, hk⟩, hC, hSf, hnw, hEL, ⟨hx, hby, hml, hret, hnm, hlk⟩, hn0⟩ := w
  subst hp
  have hZ' : Z.Warmed39 (s.setVm T.vm).vm := hZ
  obtain ⟨cq, kq, qa, qb, qc⟩ := isOf (s := s.setVm T.vm) hZ' eT F.exa
  obtain ⟨t, kb, cd, N, vs, f1, f2, f3, f4, f5, f6, f7⟩ := F
  obtain rfl : cd = 0 := by rcases f5 with q | ⟨q1, q2, q3, c, hc, q4⟩; exact q.1; exact absurd q4 (hlat c hc)
  obtain ⟨v, vm₁, ⟨T', Lc, kc, nc⟩, hW₁, X', hpost, hst⟩ := X.virtualBack (s := s.setVm T.vm) hx (y := (⟨"java/lang/String", "charAt", "(I)C"⟩ : MethodName)) (z := (⟨"java/lang/String", "charAt", "(I)C"⟩ : MethodName)) hown (mvT hZ' w1) (mvT hZ' w2) (notFace_of_selects (args := #[]) (mvT hZ' w5)) (mvT hZ' w5) (mvT hZ' w6) (by decide)
    (StrChars.Road.chN (W := WW) hZ' hws (kI := 4) wi (i := i) (j := j) f1 f2 f3 f4 f5 f6 (S0.ext hn0) hz (Ff.ext hn0) rf f7 hi hj hfr hlo) qa qc
    (g := mkF m pc Ls (.int j :: .ref x :: rest)) rfl (hsz.trans hml.symm) (Steps.refl _) (argsL := [.int j]) (rest := rest) (lenOf (ps := [.int]) (r := some .char) (by decide +kernel) rfl) rfl (by show 2 * 0 + _ ≤ _; omega) (hb hby hd) (fun _ _ => ⟨rfl, eT, hc, hs⟩)
  dsimp only [Pt.U, Pt.locs, Pt.cells, Pt.slots] at X' hpost hst
  obtain ⟨L, ⟨rfl, rfl, hh⟩, hL, hce, hsl⟩ := hpost
  rw [List.append_nil] at hL
  subst hL hce hsl
  exact (K T' _ (w'.next X' N' (h' := h) hh (Keep.refl h []) noSafe) rfl).st fun t k => hst.trans k
end SLaws2

def EL1 : List (String × Nat) := [("java/lang/String", 7), ("com/example/countersign/countersign/CommandLog", 9), ("com/example/countersign/countersign/CommandLog", 17), ("com/example/countersign/countersign/CommandLogIsSwitchPinLaw", 23), ("com/example/countersign/countersign/CommandLogIsSwitchPinLaw", 25)]
def Gl (Z : State) (a0 : Array Value) (cz : Int32) (fm : Value) : Prop := (∀ d ∈ tables_1, d.before a0 Z = true) ∧ (Sta Z Z.heap STR "COMPACT_STRINGS" "Z" (.int cz) ∧ ¬ cz = 0) ∧ (Sta Z Z.heap "jdk/internal/util/Preconditions" "SIOOBE_FORMATTER" "Ljava/util/function/BiFunction;" fm ∧ fm.isRef = true) ∧ True
theorem cst {Z : State} {a0 : Array Value} {cz : Int32} {fm : Value} (G : Gl Z a0 cz fm) : (Sta Z Z.heap STR "COMPACT_STRINGS" "Z" (.int cz) ∧ ¬ cz = 0) := G.2.1
theorem fmt {Z : State} {a0 : Array Value} {cz : Int32} {fm : Value} (G : Gl Z a0 cz fm) : Sta Z Z.heap "jdk/internal/util/Preconditions" "SIOOBE_FORMATTER" "Ljava/util/function/BiFunction;" fm ∧ fm.isRef = true := G.2.2.1
theorem strw {Z : State} {a0 : Array Value} {cz : Int32} {fm : Value} (G : Gl Z a0 cz fm) : ∀ d ∈ StrChars.Road.words, d.before a0 Z = true := fun d hd => G.1 d ((by decide +kernel : ∀ d ∈ StrChars.Road.words, d ∈ tables_1) d hd)
theorem strat {Z : State} {a0 : Array Value} {cz : Int32} {fm : Value} (G : Gl Z a0 cz fm) : ∀ d ∈ Bundle.stringAtoms, d.before a0 Z = true := fun d hd => G.1 d ((by decide +kernel : ∀ d ∈ Bundle.stringAtoms, d ∈ tables_1) d hd)
theorem streqw {Z : State} {a0 : Array Value} {cz : Int32} {fm : Value} (G : Gl Z a0 cz fm) : ∀ d ∈ StrChars.Road.wordsEq, d.before a0 Z = true := fun d hd => G.1 d ((by decide +kernel : ∀ d ∈ StrChars.Road.wordsEq, d ∈ tables_1) d hd)
theorem strlenw {Z : State} {a0 : Array Value} {cz : Int32} {fm : Value} (G : Gl Z a0 cz fm) : ∀ d ∈ StrChars.Road.wordsLen, d.before a0 Z = true := fun d hd => G.1 d ((by decide +kernel : ∀ d ∈ StrChars.Road.wordsLen, d ∈ tables_1) d hd)
theorem strchrw {Z : State} {a0 : Array Value} {cz : Int32} {fm : Value} (G : Gl Z a0 cz fm) : ∀ d ∈ StrChars.Road.wordsChN, d.before a0 Z = true := fun d hd => G.1 d ((by decide +kernel : ∀ d ∈ StrChars.Road.wordsChN, d ∈ tables_1) d hd)
def Lat (cs : List Int32) : Prop := ∀ c ∈ cs, ¬ c < 0 ∧ ¬ (255 : Int32) < c
theorem Lat.hi {cs : List Int32} (h : Lat cs) : ∀ c ∈ cs, ¬ (255 : Int32) < c := fun c hc => (h c hc).2
theorem n32i {n : Nat} (h : n ≤ 4000) : (Int32.ofNat n).toInt = n := Int32.toInt_ofNat_of_lt (by omega)
theorem n32c {n : Nat} (h : n ≤ 4000) : (Int32.ofNat n).toNatClampNeg = n := by rw [Int32.toNatClampNeg, n32i h]; rfl
theorem lt32 {i n : Nat} (hi : i ≤ 4000) (hn : n ≤ 4000) (h : Int32.ofNat i < Int32.ofNat n) : i < n := by
  rw [Int32.lt_iff_toInt_lt, n32i hi, n32i hn] at h; omega
theorem pos32 {i : Nat} (hi : i ≤ 4000) : ¬ Int32.ofNat i < 0 := by
  rw [Int32.lt_iff_toInt_lt, n32i hi]; have e : (0 : Int32).toInt = 0 := by decide
  omega
theorem eq32 {n : Nat} (hn : n ≤ 4000) {k : Nat} (hk : k ≤ 4000) (h : Int32.ofNat n = Int32.ofNat k) : n = k := by
  have q := congrArg Int32.toInt h
  rw [n32i hn, n32i hk] at q; omega
theorem Lat.get {cs : List Int32} (h : Lat cs) {i : Nat} (hi : i < cs.length) : ¬ cs.getD i 0 < 0 ∧ ¬ (255 : Int32) < cs.getD i 0 := by
  have e : cs.getD i 0 = cs[i] := by simp [hi]
  rw [e]; exact h _ (List.getElem_mem hi)
theorem Lat.set {cs : List Int32} (h : Lat cs) {i : Nat} {c : Int32} (hc : ¬ c < 0 ∧ ¬ (255 : Int32) < c) : Lat (cs.set i c) := fun x hx => by
  rcases List.mem_or_eq_of_mem_set hx with q | q
  · exact h x q
  · rw [q]; exact hc
theorem Lat.rep (n : Nat) : Lat (List.replicate n (0 : Int32)) := fun x hx => by
  rw [(List.mem_replicate.mp hx).2]; decide
theorem Str.len {Z : State} {h : Heap} {a : Addr} {cs : List Int32} (F : Str Z h a cs) : cs.length ≤ 4000 := by obtain ⟨_, _, _, _, _, _, _, _, _, _, _, q⟩ := F; exact q
theorem narC {z : Int32} (h : ¬ z < 0 ∧ ¬ (255 : Int32) < z) : narrow .char (.int z) = .int z := by
  show Value.int (z.toUInt32.toUInt16.toUInt32.toInt32) = .int z
  rw [i2c_small h]
theorem is9 {cs : List Int32} (hl : cs.length = 9) (h0 : cs.getD 0 0 = 45) (h1 : cs.getD 1 0 = 45) (h2 : cs.getD 2 0 = 118) (h3 : cs.getD 3 0 = 101) (h4 : cs.getD 4 0 = 114) (h5 : cs.getD 5 0 = 98) (h6 : cs.getD 6 0 = 111) (h7 : cs.getD 7 0 = 115) (h8 : cs.getD 8 0 = 101) : cs = ([45, 45, 118, 101, 114, 98, 111, 115, 101] : List Int32) := by
  match cs, hl with
  | [a, b, c, d, e, f, g, h, i], _ =>
    simp only [List.getD_cons_zero, List.getD_cons_succ] at h0 h1 h2 h3 h4 h5 h6 h7 h8
    subst h0 h1 h2 h3 h4 h5 h6 h7 h8; rfl
theorem is2 {cs : List Int32} (hl : cs.length = 2) (h0 : cs.getD 0 0 = 45) (h1 : cs.getD 1 0 = 118) : cs = ([45, 118] : List Int32) := by
  match cs, hl with
  | [a, b], _ =>
    simp only [List.getD_cons_zero, List.getD_cons_succ] at h0 h1
    subst h0 h1; rfl
theorem eqT {z : Int32} {E : Prop} (h : (z = 1 ∧ E) ∨ (z = 0 ∧ ¬ E)) (q : ¬ z = 0) : E := h.elim (·.2) fun k => absurd k.1 q
theorem eqF {z : Int32} {E : Prop} (h : (z = 1 ∧ E) ∨ (z = 0 ∧ ¬ E)) (q : z = 0) : ¬ E := h.elim (fun k => absurd (k.1.symm.trans q) (by decide)) (·.2)
theorem is1 {z : Int32} {E : Prop} (h : (z = 1 ∧ E) ∨ (z = 0 ∧ ¬ E)) (q : E) : z = 1 := h.elim (·.1) fun k => absurd q k.2
theorem is0 {z : Int32} {E : Prop} (h : (z = 1 ∧ E) ∨ (z = 0 ∧ ¬ E)) (q : ¬ E) : z = 0 := h.elim (fun k => absurd k.2 q) (·.1)
theorem tw89 {Z : State} {a0 : Array Value} {cz : Int32} {fm : Value} (G : Gl Z a0 cz fm) : (Jvm.Cond.stringLink "com/example/countersign/countersign/CommandLogIsSwitchPinLaw" (25 : Nat) "-v").before a0 Z = true := G.1 _ (List.mem_of_getElem? (i := 89) rfl)
theorem tw0 {Z : State} {a0 : Array Value} {cz : Int32} {fm : Value} (G : Gl Z a0 cz fm) : (Jvm.Cond.stringLink "com/example/countersign/countersign/CommandLogIsSwitchPinLaw" (23 : Nat) "--verbose").before a0 Z = true := G.1 _ (List.mem_of_getElem? (i := 0) rfl)
theorem tw88 {Z : State} {a0 : Array Value} {cz : Int32} {fm : Value} (G : Gl Z a0 cz fm) : (Jvm.Cond.stringLink "com/example/countersign/countersign/CommandLog" (17 : Nat) "-v").before a0 Z = true := G.1 _ (List.mem_of_getElem? (i := 88) rfl)
theorem tw77 {Z : State} {a0 : Array Value} {cz : Int32} {fm : Value} (G : Gl Z a0 cz fm) : (Jvm.Cond.stringLink "com/example/countersign/countersign/CommandLog" (9 : Nat) "--verbose").before a0 Z = true := G.1 _ (List.mem_of_getElem? (i := 77) rfl)
theorem tw87 {Z : State} {a0 : Array Value} {cz : Int32} {fm : Value} (G : Gl Z a0 cz fm) : (Jvm.Cond.stringLink "java/lang/String" (7 : Nat) "").before a0 Z = true := G.1 _ (List.mem_of_getElem? (i := 87) rfl)
theorem elw {Z : State} {a0 : Array Value} {cz : Int32} {fm : Value} (G : Gl Z a0 cz fm) : EW Z a0 EL1 := EW.cons (tw87 G) (by decide) (EW.cons (tw77 G) (by decide) (EW.cons (tw88 G) (by decide) (EW.cons (tw0 G) (by decide) (EW.cons (tw89 G) (by decide) (EW.nil)))))
theorem d11_0 : decode jdk_42_method_149_code 0 = .ok (.aload_n 0, 1) := by decide +kernel
theorem tw60 {Z : State} {a0 : Array Value} {cz : Int32} {fm : Value} (G : Gl Z a0 cz fm) : (Jvm.Cond.methodLink "java/lang/String" (1 : Nat) ({ cls := "java/lang/Object", name := "<init>", desc := "()V" } : Jvm.MethodName)).before a0 Z = true := G.1 _ (List.mem_of_getElem? (i := 60) rfl)
theorem tw61 {Z : State} {a0 : Array Value} {cz : Int32} {fm : Value} (G : Gl Z a0 cz fm) : (Jvm.Cond.instanceMethod ({ cls := "java/lang/Object", name := "<init>", desc := "()V" } : Jvm.MethodName)).before a0 Z = true := G.1 _ (List.mem_of_getElem? (i := 61) rfl)
theorem tw62 {Z : State} {a0 : Array Value} {cz : Int32} {fm : Value} (G : Gl Z a0 cz fm) : (Jvm.Cond.code ({ cls := "java/lang/Object", name := "<init>", desc := "()V" } : Jvm.MethodName) object_method_1_code (1 : Nat) (Option.none : Option Jvm.ClassFile.FieldType)).before a0 Z = true := G.1 _ (List.mem_of_getElem? (i := 62) rfl)
theorem d11_1 : decode jdk_42_method_149_code 1 = .ok (.invokespecial 1, 3) := by decide +kernel
theorem d11_4 : decode jdk_42_method_149_code 4 = .ok (.iload_n 3, 1) := by decide +kernel
theorem d11_5 : decode jdk_42_method_149_code 5 = .ok (.ifCond .ne 22, 3) := by decide +kernel
theorem d11_8 : decode jdk_42_method_149_code 8 = .ok (.aload_n 0, 1) := by decide +kernel
theorem d11_9 : decode jdk_42_method_149_code 9 = .ok (.ldc 7, 2) := by decide +kernel
theorem tw13 {Z : State} {a0 : Array Value} {cz : Int32} {fm : Value} (G : Gl Z a0 cz fm) : (Jvm.Cond.fieldLink "java/lang/String" (9 : Nat) "java/lang/String" "value" "[B").before a0 Z = true := G.1 _ (List.mem_of_getElem? (i := 13) rfl)
theorem d11_11 : decode jdk_42_method_149_code 11 = .ok (.getfield 9, 3) := by decide +kernel
theorem tw4 {Z : State} {a0 : Array Value} {cz : Int32} {fm : Value} (G : Gl Z a0 cz fm) : (Jvm.Cond.laysFinal "java/lang/String" "java/lang/String" "value" "[B").before a0 Z = true := G.1 _ (List.mem_of_getElem? (i := 4) rfl)
theorem tw2 {Z : State} {a0 : Array Value} {cz : Int32} {fm : Value} (G : Gl Z a0 cz fm) : (Jvm.Cond.instantiable "java/lang/String" (4 : Nat)).before a0 Z = true := G.1 _ (List.mem_of_getElem? (i := 2) rfl)
theorem d11_14 : decode jdk_42_method_149_code 14 = .ok (.putfield 9, 3) := by decide +kernel
theorem tw5 {Z : State} {a0 : Array Value} {cz : Int32} {fm : Value} (G : Gl Z a0 cz fm) : (Jvm.Cond.laysFinal "java/lang/String" "java/lang/String" "coder" "B").before a0 Z = true := G.1 _ (List.mem_of_getElem? (i := 5) rfl)
theorem d11_17 : decode jdk_42_method_149_code 17 = .ok (.aload_n 0, 1) := by decide +kernel
theorem d11_18 : decode jdk_42_method_149_code 18 = .ok (.ldc 7, 2) := by decide +kernel
theorem tw20 {Z : State} {a0 : Array Value} {cz : Int32} {fm : Value} (G : Gl Z a0 cz fm) : (Jvm.Cond.fieldLink "java/lang/String" (15 : Nat) "java/lang/String" "coder" "B").before a0 Z = true := G.1 _ (List.mem_of_getElem? (i := 20) rfl)
theorem d11_20 : decode jdk_42_method_149_code 20 = .ok (.getfield 15, 3) := by decide +kernel
theorem d11_23 : decode jdk_42_method_149_code 23 = .ok (.putfield 15, 3) := by decide +kernel
theorem d11_26 : decode jdk_42_method_149_code 26 = .ok (.return_, 1) := by decide +kernel
theorem pn0 : plainName "java/lang/String" = true := by first | (simp [plainName, overriddenIn]; done) | decide +kernel
set_option maxHeartbeats 4000000 in
theorem ef_cE4 (m : MethodId) (a : Addr) (b : Addr) : entryFrame m #[(.ref a), (.ref b), (.int (0 : Int32)), (.int (0 : Int32)), .null] 6 = mkF m 0 #[.val (.ref a), .val (.ref b), .val (.int (0 : Int32)), .val (.int (0 : Int32)), .val .null, .unset] [] := by first | (simp [entryFrame, mkF, argsToLocals, Value.category, maxLocals]; done) | rfl
set_option maxRecDepth 65536 in
set_option maxHeartbeats 40000000 in
theorem cE4 {Z : State} {a0 : Array Value} {cz : Int32} {fm : Value} (G : Gl Z a0 cz fm) (l : Launch) {h0 : Heap} (O0 : Ext Z.heap h0) (a : Addr) (b : Addr) (g : Z.heap.size ≤ a) (E1 : Exa Z h0 a "java/lang/String") (P0 : Fld Z h0 a "java/lang/String" "value" "[B" .null) (P1 : Fld Z h0 a "java/lang/String" "coder" "B" (.int (0 : Int32))) :
    Ctr false EL1 Z l (⟨"java/lang/String", "<init>", "([CIILjava/lang/Void;)V"⟩ : MethodName) jdk_42_method_149_code 6 none ({ frames := 1, cells := 4, slots := 8, locals := 12 } : Room) #[(.ref a), (.ref b), (.int (0 : Int32)), (.int (0 : Int32)), .null] h0 [a] (fun v h sf => v = none ∧ Keep h0 h [a] ∧ Str Z h a []) := by
  refine ctrOf (a0 := a0) (plainFor_of_name pn0) (elw G) O0 ?_
  intro p e s m below meth c T0 w0'
  have w0 : Wk false EL1 Z a0 "java/lang/String" jdk_42_method_149_code 6 none "<init>" p l e ({ frames := 1, cells := 4, slots := 8, locals := 12 } : Room) s m #[(.ref a), (.ref b), (.int (0 : Int32)), (.int (0 : Int32)), .null] below meth c T0 h0 [a] 0 0 := w0'
  refine goEntry (ef_cE4 m a b) ?_
  refine gAloadN (pc' := 1) w0 d11_0 rfl rfl rfl ?_
  refine wInitO (pc' := 4) w0 (tw60 G) (tw61 G) (tw62 G) d11_1 rfl rfl sw0 (by decide) (by decide) ?_
  intro T1 w1
  refine gIloadN (pc' := 5) w1 d11_4 rfl rfl ?_
  refine gIfN (pc' := 8) w1 d11_5 (teq (by decide : ((0 : Int32) = (0 : Int32)))).2 rfl ?_
  refine gAloadN (pc' := 9) w1 d11_8 rfl rfl rfl ?_
  refine wLdcC (pc' := 11) w1 (tw87 G) (strat G) (List.mem_cons_self ..) (vs := []) (z := (0 : Int32)) ⟨by decide, by decide⟩ (by decide) (by decide) (n := 0) (by decide) (by decide) d11_9 rfl (by decide) (by decide) ?_
  intro T2 h2 L2 B2 kb2 w2 K2 E2 Cd2 Vl2 Ar2 ne2
  refine wGetF (pc' := 14) w2 (tw13 G) Vl2 d11_11 rfl ?_
  intro T3 w3
  have K0_1_5 : Keep h0 h2 [] := K2
  have F4 : Fld Z h2 a "java/lang/String" "value" "[B" .null := P0.keep K0_1_5 nin0
  have F6 : Exa Z h2 a "java/lang/String" := E1.keep K0_1_5
  have F7 : Fld Z h2 a "java/lang/String" "coder" "B" (.int (0 : Int32)) := P1.keep K0_1_5 nin0
  refine wPutF (pc' := 17) w3 (tw13 G) F4 F6 (Or.inr ⟨(tw4 G), rfl, rfl⟩) (tw2 G) (ty := (.array .byte)) (by decide) rfl rfl g (w3.safe (List.mem_cons_self ..)) d11_14 rfl ?_
  intro T8 h8 w8 W8
  have F9 : Fld Z h8 a "java/lang/String" "value" "[B" (.ref B2) := F4.same W8
  have F10 : Fld Z h8 a "java/lang/String" "coder" "B" (.int (0 : Int32)) := F7.other W8 (Or.inr (slot_ne (C := "java/lang/String") (Or.inr (tw5 G)) (Or.inr (tw4 G)) (by decide) (t := .byte) (t' := (.array .byte)) (by decide) (by decide)))
  refine gAloadN (pc' := 18) w8 d11_17 rfl rfl rfl ?_
  refine wLdcC (pc' := 20) w8 (tw87 G) (strat G) (List.mem_cons_self ..) (vs := []) (z := (0 : Int32)) ⟨by decide, by decide⟩ (by decide) (by decide) (n := 0) (by decide) (by decide) d11_18 rfl (by decide) (by decide) ?_
  intro T11 h11 L11 B11 kb11 w11 K11 E11 Cd11 Vl11 Ar11 ne11
  refine wGetF (pc' := 23) w11 (tw20 G) Cd11 d11_20 rfl ?_
  intro T12 w12
  have K2_3_14 : Keep h8 h11 [] := K11
  have F13 : Fld Z h11 a "java/lang/String" "coder" "B" (.int (0 : Int32)) := F10.keep K2_3_14 nin0
  have F15 : Exa Z h11 a "java/lang/String" := ((F6.keep (Keep.of_wr W8)).keep K11)
  have F16 : Fld Z h11 a "java/lang/String" "value" "[B" (.ref B2) := F9.keep K2_3_14 nin0
  refine wPutF (pc' := 26) w12 (tw20 G) F13 F15 (Or.inr ⟨(tw5 G), rfl, rfl⟩) (tw2 G) (ty := .byte) (by decide) rfl rfl g (w12.safe (List.mem_cons_self ..)) d11_23 rfl ?_
  intro T17 h17 w17 W17
  have F18 : Fld Z h17 a "java/lang/String" "coder" "B" (.int (0 : Int32)) := F13.same W17
  have F19 : Fld Z h17 a "java/lang/String" "value" "[B" (.ref B2) := F16.other W17 (Or.inr (slot_ne (C := "java/lang/String") (Or.inr (tw4 G)) (Or.inr (tw5 G)) (by decide) (t := (.array .byte)) (t' := .byte) (by decide) (by decide)))
  have F20 : Arv Z h17 B2 kb2 .byte (0 : Int32) [] (.int 0) := (((Ar2.keep (Keep.of_wr W8) (ninS (Ne.symm (ne2 a (List.mem_cons_self ..)).2) nin0)).keep K11 nin0).keep (Keep.of_wr W17) (ninS (Ne.symm (ne2 a (List.mem_cons_self ..)).2) nin0))
  have F21 : Exa Z h17 a "java/lang/String" := (F15.keep (Keep.of_wr W17))
  refine wRetVoid w17 d11_26 (by decide) (by decide) ?_
  exact ⟨rfl, (((((Keep.refl _ [a]).trans K2 all0).trans (Keep.of_wr W8) (allS (Or.inl (List.mem_cons_self ..)) all0)).trans K11 all0).trans (Keep.of_wr W17) (allS (Or.inl (List.mem_cons_self ..)) all0)), B2, kb2, 0, 0, [], F21, F19, F18, F20, Or.inl ⟨rfl, rfl, rfl, cs0⟩, cs0, Nat.zero_le _⟩
theorem d10_0 : decode jdk_42_method_3_code 0 = .ok (.aload_n 0, 1) := by decide +kernel
theorem d10_1 : decode jdk_42_method_3_code 1 = .ok (.aload_n 1, 1) := by decide +kernel
theorem d10_2 : decode jdk_42_method_3_code 2 = .ok (.iconst 0, 1) := by decide +kernel
theorem d10_3 : decode jdk_42_method_3_code 3 = .ok (.aload_n 1, 1) := by decide +kernel
theorem d10_4 : decode jdk_42_method_3_code 4 = .ok (.arraylength, 1) := by decide +kernel
theorem d10_5 : decode jdk_42_method_3_code 5 = .ok (.aconst_null, 1) := by decide +kernel
theorem tw56 {Z : State} {a0 : Array Value} {cz : Int32} {fm : Value} (G : Gl Z a0 cz fm) : (Jvm.Cond.methodLink "java/lang/String" (27 : Nat) ({ cls := "java/lang/String", name := "<init>", desc := "([CIILjava/lang/Void;)V" } : Jvm.MethodName)).before a0 Z = true := G.1 _ (List.mem_of_getElem? (i := 56) rfl)
theorem tw59 {Z : State} {a0 : Array Value} {cz : Int32} {fm : Value} (G : Gl Z a0 cz fm) : (Jvm.Cond.code ({ cls := "java/lang/String", name := "<init>", desc := "([CIILjava/lang/Void;)V" } : Jvm.MethodName) jdk_42_method_149_code (6 : Nat) (Option.none : Option Jvm.ClassFile.FieldType)).before a0 Z = true := G.1 _ (List.mem_of_getElem? (i := 59) rfl)
theorem pd0 : parseMethodDescriptor "([CIILjava/lang/Void;)V" = some ⟨[(.array .char), .int, .int, (.object "java/lang/Void")], none⟩ := by decide +kernel
theorem d10_6 : decode jdk_42_method_3_code 6 = .ok (.invokespecial 27, 3) := by decide +kernel
theorem tw1 {Z : State} {a0 : Array Value} {cz : Int32} {fm : Value} (G : Gl Z a0 cz fm) : (Jvm.Cond.initialized "java/lang/String").before a0 Z = true := G.1 _ (List.mem_of_getElem? (i := 1) rfl)
theorem tw57 {Z : State} {a0 : Array Value} {cz : Int32} {fm : Value} (G : Gl Z a0 cz fm) : (Jvm.Cond.instanceMethod ({ cls := "java/lang/String", name := "<init>", desc := "([CIILjava/lang/Void;)V" } : Jvm.MethodName)).before a0 Z = true := G.1 _ (List.mem_of_getElem? (i := 57) rfl)
theorem d10_9 : decode jdk_42_method_3_code 9 = .ok (.return_, 1) := by decide +kernel
set_option maxHeartbeats 4000000 in
theorem ef_cE1 (m : MethodId) (a : Addr) (b : Addr) (kc : ClassId) : entryFrame m #[(.ref a), (.ref b)] 2 = mkF m 0 #[.val (.ref a), .val (.ref b)] [] := by first | (simp [entryFrame, mkF, argsToLocals, Value.category, maxLocals]; done) | rfl
set_option maxRecDepth 65536 in
set_option maxHeartbeats 40000000 in
theorem cE1 {Z : State} {a0 : Array Value} {cz : Int32} {fm : Value} (G : Gl Z a0 cz fm) (l : Launch) {h0 : Heap} (O0 : Ext Z.heap h0) (a : Addr) (b : Addr) (kc : ClassId) (g : Z.heap.size ≤ a) (E1 : Exa Z h0 a "java/lang/String") (P0 : Fld Z h0 a "java/lang/String" "value" "[B" .null) (P1 : Fld Z h0 a "java/lang/String" "coder" "B" (.int (0 : Int32))) (Ab : Arv Z h0 b kc .char (0 : Int32) [] (.int 0)) :
    Ctr false EL1 Z l (⟨"java/lang/String", "<init>", "([C)V"⟩ : MethodName) jdk_42_method_3_code 2 none ({ frames := 2, cells := 4, slots := 8, locals := 29 } : Room) #[(.ref a), (.ref b)] h0 [a] (fun v h sf => v = none ∧ Keep h0 h [a] ∧ Str Z h a []) := by
  refine ctrOf (a0 := a0) (plainFor_of_name pn0) (elw G) O0 ?_
  intro p e s m below meth c T0 w0'
  have w0 : Wk false EL1 Z a0 "java/lang/String" jdk_42_method_3_code 2 none "<init>" p l e ({ frames := 2, cells := 4, slots := 8, locals := 29 } : Room) s m #[(.ref a), (.ref b)] below meth c T0 h0 [a] 0 0 := w0'
  refine goEntry (ef_cE1 m a b kc) ?_
  refine gAloadN (pc' := 1) w0 d10_0 rfl rfl rfl ?_
  refine gAloadN (pc' := 2) w0 d10_1 rfl rfl rfl ?_
  refine gIconst (pc' := 3) w0 d10_2 rfl (z := (0 : Int32)) rfl ?_
  refine gAloadN (pc' := 4) w0 d10_3 rfl rfl rfl ?_
  refine wLen (pc' := 5) w0 Ab d10_4 rfl ?_
  refine gNull (pc' := 6) w0 d10_5 rfl ?_
  refine wCallX (pc' := 9) w0 (cE4 G l w0.old a b g E1 P0 P1) (fun q => q) (fun x q => (List.mem_singleton.mp q) ▸ (List.mem_cons_self ..)) rfl rfl (tw56 G) (tw57 G) (tw1 G) (tw59 G) (by decide) [(.ref b), (.int (0 : Int32)), (.int (0 : Int32)), .null] [] (ps := [(.array .char), .int, .int, (.object "java/lang/Void")]) (rt := none) pd0 rfl rfl rfl rfl sw0 (by decide) (by decide) (by decide) (by decide) d10_6 rfl ?_
  intro v1 T1 h1 w1 q1
  obtain ⟨rfl, K1, S1⟩ := q1
  refine wRetVoid w1 d10_9 (by decide) (by decide) ?_
  exact ⟨rfl, ((Keep.refl _ [a]).trans K1 (allS (Or.inl (List.mem_cons_self ..)) all0)), S1⟩
theorem d4_0 : decode method_2_code 0 = .ok (.iload_n 1, 1) := by decide +kernel
theorem d4_1 : decode method_2_code 1 = .ok (.aload_n 0, 1) := by decide +kernel
theorem tw8 {Z : State} {a0 : Array Value} {cz : Int32} {fm : Value} (G : Gl Z a0 cz fm) : (Jvm.Cond.methodLink "com/example/countersign/countersign/CommandLogIsSwitchPinLaw" (7 : Nat) ({ cls := "java/lang/String", name := "length", desc := "()I" } : Jvm.MethodName)).before a0 Z = true := G.1 _ (List.mem_of_getElem? (i := 8) rfl)
theorem tw9 {Z : State} {a0 : Array Value} {cz : Int32} {fm : Value} (G : Gl Z a0 cz fm) : (Jvm.Cond.declares ({ cls := "java/lang/String", name := "length", desc := "()I" } : Jvm.MethodName)).before a0 Z = true := G.1 _ (List.mem_of_getElem? (i := 9) rfl)
theorem tw11 {Z : State} {a0 : Array Value} {cz : Int32} {fm : Value} (G : Gl Z a0 cz fm) : (Jvm.Cond.selects "java/lang/String" ({ cls := "java/lang/String", name := "length", desc := "()I" } : Jvm.MethodName) ({ cls := "java/lang/String", name := "length", desc := "()I" } : Jvm.MethodName)).before a0 Z = true := G.1 _ (List.mem_of_getElem? (i := 11) rfl)
theorem tw10 {Z : State} {a0 : Array Value} {cz : Int32} {fm : Value} (G : Gl Z a0 cz fm) : (Jvm.Cond.instanceMethod ({ cls := "java/lang/String", name := "length", desc := "()I" } : Jvm.MethodName)).before a0 Z = true := G.1 _ (List.mem_of_getElem? (i := 10) rfl)
theorem d4_2 : decode method_2_code 2 = .ok (.invokevirtual 7, 3) := by decide +kernel
theorem d4_5 : decode method_2_code 5 = .ok (.if_icmp .ge 11, 3) := by decide +kernel
theorem d4_8 : decode method_2_code 8 = .ok (.aload_n 0, 1) := by decide +kernel
theorem d4_9 : decode method_2_code 9 = .ok (.iload_n 1, 1) := by decide +kernel
theorem tw30 {Z : State} {a0 : Array Value} {cz : Int32} {fm : Value} (G : Gl Z a0 cz fm) : (Jvm.Cond.methodLink "com/example/countersign/countersign/CommandLogIsSwitchPinLaw" (13 : Nat) ({ cls := "java/lang/String", name := "charAt", desc := "(I)C" } : Jvm.MethodName)).before a0 Z = true := G.1 _ (List.mem_of_getElem? (i := 30) rfl)
theorem tw31 {Z : State} {a0 : Array Value} {cz : Int32} {fm : Value} (G : Gl Z a0 cz fm) : (Jvm.Cond.declares ({ cls := "java/lang/String", name := "charAt", desc := "(I)C" } : Jvm.MethodName)).before a0 Z = true := G.1 _ (List.mem_of_getElem? (i := 31) rfl)
theorem tw33 {Z : State} {a0 : Array Value} {cz : Int32} {fm : Value} (G : Gl Z a0 cz fm) : (Jvm.Cond.selects "java/lang/String" ({ cls := "java/lang/String", name := "charAt", desc := "(I)C" } : Jvm.MethodName) ({ cls := "java/lang/String", name := "charAt", desc := "(I)C" } : Jvm.MethodName)).before a0 Z = true := G.1 _ (List.mem_of_getElem? (i := 33) rfl)
theorem tw32 {Z : State} {a0 : Array Value} {cz : Int32} {fm : Value} (G : Gl Z a0 cz fm) : (Jvm.Cond.instanceMethod ({ cls := "java/lang/String", name := "charAt", desc := "(I)C" } : Jvm.MethodName)).before a0 Z = true := G.1 _ (List.mem_of_getElem? (i := 32) rfl)
theorem d4_10 : decode method_2_code 10 = .ok (.invokevirtual 13, 3) := by decide +kernel
theorem d4_13 : decode method_2_code 13 = .ok (.goto 4, 3) := by decide +kernel
theorem d4_17 : decode method_2_code 17 = .ok (.ireturn, 1) := by decide +kernel
theorem d4_16 : decode method_2_code 16 = .ok (.iload_n 2, 1) := by decide +kernel
theorem pn1 : plainName "com/example/countersign/countersign/CommandLogIsSwitchPinLaw" = true := by first | (simp [plainName, overriddenIn]; done) | decide +kernel
set_option maxHeartbeats 4000000 in
theorem ef_c4 (m : MethodId) (t : Addr) (ts : List Int32) (i : Nat) (hi : i < 10) (x : Int32) (bx : ¬ x < 0 ∧ ¬ (255 : Int32) < x) (hts : Lat ts) : entryFrame m #[(.ref t), (.int (Int32.ofNat i)), (.int x)] 3 = mkF m 0 #[.val (.ref t), .val (.int (Int32.ofNat i)), .val (.int x)] [] := by first | (simp [entryFrame, mkF, argsToLocals, Value.category, maxLocals]; done) | rfl
set_option maxRecDepth 65536 in
set_option maxHeartbeats 40000000 in
theorem c4 {Z : State} {a0 : Array Value} {cz : Int32} {fm : Value} (G : Gl Z a0 cz fm) (l : Launch) {h0 : Heap} (O0 : Ext Z.heap h0) (t : Addr) (ts : List Int32) (i : Nat) (hi : i < 10) (x : Int32) (bx : ¬ x < 0 ∧ ¬ (255 : Int32) < x) (hts : Lat ts) (S1 : Str Z h0 t ts) :
    Ctr false EL1 Z l (⟨"com/example/countersign/countersign/CommandLogIsSwitchPinLaw", "at", "(Ljava/lang/String;IC)C"⟩ : MethodName) method_2_code 3 (some .char) ({ frames := 4, cells := 0, slots := 0, locals := 53 } : Room) #[(.ref t), (.int (Int32.ofNat i)), (.int x)] h0 [] (fun v h sf => ∃ r : Int32, v = some (.int r) ∧ (¬ r < 0 ∧ ¬ (255 : Int32) < r) ∧ h0 = h) := by
  refine ctrOf (a0 := a0) (plainFor_of_name pn1) (elw G) O0 ?_
  intro p e s m below meth c T0 w0'
  have w0 : Wk false EL1 Z a0 "com/example/countersign/countersign/CommandLogIsSwitchPinLaw" method_2_code 3 (some .char) "at" p l e ({ frames := 4, cells := 0, slots := 0, locals := 53 } : Room) s m #[(.ref t), (.int (Int32.ofNat i)), (.int x)] below meth c T0 h0 [] 0 0 := w0'
  refine goEntry (ef_c4 m t ts i hi x bx hts) ?_
  refine gIloadN (pc' := 1) w0 d4_0 rfl rfl ?_
  refine gAloadN (pc' := 2) w0 d4_1 rfl rfl rfl ?_
  refine wStrLen (pc' := 5) w0 (strlenw G) (tw2 G) (tw8 G) (tw9 G) (tw11 G) (tw10 G) S1 (cst G).1 (cst G).2 [(.int (Int32.ofNat i))] rfl (swS catI sw0) (by decide) (by decide) (by decide) (by decide) d4_2 rfl ?_
  intro T1 z1 w1 e1
  by_cases hc5_2 : (Int32.ofNat i) < z1
  · skip
    refine gIcN (pc' := 8) w1 d4_5 (tlt hc5_2).2.1 rfl ?_
    have hl3 : i < ts.length := lt32 (by omega) S1.len (by have q := hc5_2; rw [e1] at q; exact q)
    refine gAloadN (pc' := 9) w1 d4_8 rfl rfl rfl ?_
    refine gIloadN (pc' := 10) w1 d4_9 rfl rfl ?_
    refine wStrChr (pc' := 13) w1 (strchrw G) (tw2 G) (tw30 G) (tw31 G) (tw33 G) (tw32 G) S1 (i := i) hts.hi (fmt G).1 (fmt G).2 hl3 rfl (cst G).1 (cst G).2 [] rfl sw0 (by decide) (by decide) (by decide) (by decide) d4_10 rfl ?_
    intro T4 z4 w4 e4
    refine gGoto (pc' := 17) w4 d4_13 (by decide) (by decide) ?_
    have bz5 : ¬ z4 < 0 ∧ ¬ (255 : Int32) < z4 := by rw [e4]; exact hts.get hl3
    refine wRetC w4 d4_17 (narC bz5) (by decide) (by decide) ?_
    exact ⟨_, rfl, bz5, rfl⟩
  · skip
    refine gIcY (pc' := 16) w1 d4_5 (flt hc5_2).2.1 (by decide) (by decide) ?_
    refine gIloadN (pc' := 17) w1 d4_16 rfl rfl ?_
    refine wRetC w1 d4_17 (narC bx) (by decide) (by decide) ?_
    exact ⟨_, rfl, bx, rfl⟩
theorem own_in {i : Nat} {n : Int32} (hi : i < 10) (h : Int32.ofNat i < n) : i < n.toNatClampNeg := by
  rw [Int32.lt_iff_toInt_lt, n32i (by omega)] at h
  simp only [Int32.toNatClampNeg]; omega
theorem d3_0 : decode method_3_code 0 = .ok (.iload_n 1, 1) := by decide +kernel
theorem d3_1 : decode method_3_code 1 = .ok (.aload_n 0, 1) := by decide +kernel
theorem d3_2 : decode method_3_code 2 = .ok (.arraylength, 1) := by decide +kernel
theorem d3_3 : decode method_3_code 3 = .ok (.if_icmp .ge 28, 3) := by decide +kernel
theorem d3_6 : decode method_3_code 6 = .ok (.aload_n 0, 1) := by decide +kernel
theorem d3_7 : decode method_3_code 7 = .ok (.iload_n 1, 1) := by decide +kernel
theorem d3_8 : decode method_3_code 8 = .ok (.iload 4, 2) := by decide +kernel
theorem d3_10 : decode method_3_code 10 = .ok (.ifCond .eq 14, 3) := by decide +kernel
theorem d3_24 : decode method_3_code 24 = .ok (.aload_n 2, 1) := by decide +kernel
theorem d3_25 : decode method_3_code 25 = .ok (.iload_n 1, 1) := by decide +kernel
theorem d3_26 : decode method_3_code 26 = .ok (.iload_n 3, 1) := by decide +kernel
theorem tw27 {Z : State} {a0 : Array Value} {cz : Int32} {fm : Value} (G : Gl Z a0 cz fm) : (Jvm.Cond.methodLink "com/example/countersign/countersign/CommandLogIsSwitchPinLaw" (17 : Nat) ({ cls := "com/example/countersign/countersign/CommandLogIsSwitchPinLaw", name := "at", desc := "(Ljava/lang/String;IC)C" } : Jvm.MethodName)).before a0 Z = true := G.1 _ (List.mem_of_getElem? (i := 27) rfl)
theorem tw29 {Z : State} {a0 : Array Value} {cz : Int32} {fm : Value} (G : Gl Z a0 cz fm) : (Jvm.Cond.code ({ cls := "com/example/countersign/countersign/CommandLogIsSwitchPinLaw", name := "at", desc := "(Ljava/lang/String;IC)C" } : Jvm.MethodName) method_2_code (3 : Nat) (Option.some Jvm.ClassFile.FieldType.char)).before a0 Z = true := G.1 _ (List.mem_of_getElem? (i := 29) rfl)
theorem pd1 : parseMethodDescriptor "(Ljava/lang/String;IC)C" = some ⟨[(.object "java/lang/String"), .int, .char], some .char⟩ := by decide +kernel
theorem d3_27 : decode method_3_code 27 = .ok (.invokestatic 17, 3) := by decide +kernel
theorem tw25 {Z : State} {a0 : Array Value} {cz : Int32} {fm : Value} (G : Gl Z a0 cz fm) : (Jvm.Cond.initialized "com/example/countersign/countersign/CommandLogIsSwitchPinLaw").before a0 Z = true := G.1 _ (List.mem_of_getElem? (i := 25) rfl)
theorem tw28 {Z : State} {a0 : Array Value} {cz : Int32} {fm : Value} (G : Gl Z a0 cz fm) : (Jvm.Cond.static ({ cls := "com/example/countersign/countersign/CommandLogIsSwitchPinLaw", name := "at", desc := "(Ljava/lang/String;IC)C" } : Jvm.MethodName)).before a0 Z = true := G.1 _ (List.mem_of_getElem? (i := 28) rfl)
theorem d3_30 : decode method_3_code 30 = .ok (.castore, 1) := by decide +kernel
theorem d3_31 : decode method_3_code 31 = .ok (.return_, 1) := by decide +kernel
theorem d3_13 : decode method_3_code 13 = .ok (.iload_n 1, 1) := by decide +kernel
theorem d3_14 : decode method_3_code 14 = .ok (.iload 5, 2) := by decide +kernel
theorem d3_16 : decode method_3_code 16 = .ok (.if_icmp .ne 8, 3) := by decide +kernel
theorem d3_19 : decode method_3_code 19 = .ok (.iload 6, 2) := by decide +kernel
theorem d3_21 : decode method_3_code 21 = .ok (.goto 9, 3) := by decide +kernel
set_option maxHeartbeats 4000000 in
theorem ef_c3 (m : MethodId) (a : Addr) (kc : ClassId) (n : Int32) (cs : List Int32) (hl : cs.length = n.toNatClampNeg) (hb : Lat cs) (i : Nat) (hi : i < 10) (t : Addr) (ts : List Int32) (hts : Lat ts) (x : Int32) (bx : ¬ x < 0 ∧ ¬ (255 : Int32) < x) (mu : Int32) (pp : Int32) (y : Int32) (by_ : ¬ y < 0 ∧ ¬ (255 : Int32) < y) : entryFrame m #[(.ref a), (.int (Int32.ofNat i)), (.ref t), (.int x), (.int mu), (.int pp), (.int y)] 7 = mkF m 0 #[.val (.ref a), .val (.int (Int32.ofNat i)), .val (.ref t), .val (.int x), .val (.int mu), .val (.int pp), .val (.int y)] [] := by first | (simp [entryFrame, mkF, argsToLocals, Value.category, maxLocals]; done) | rfl
set_option maxRecDepth 65536 in
set_option maxHeartbeats 40000000 in
theorem c3 {Z : State} {a0 : Array Value} {cz : Int32} {fm : Value} (G : Gl Z a0 cz fm) (l : Launch) {h0 : Heap} (O0 : Ext Z.heap h0) (a : Addr) (kc : ClassId) (n : Int32) (cs : List Int32) (hl : cs.length = n.toNatClampNeg) (hb : Lat cs) (i : Nat) (hi : i < 10) (t : Addr) (ts : List Int32) (hts : Lat ts) (x : Int32) (bx : ¬ x < 0 ∧ ¬ (255 : Int32) < x) (mu : Int32) (pp : Int32) (y : Int32) (by_ : ¬ y < 0 ∧ ¬ (255 : Int32) < y) (g : Z.heap.size ≤ a) (A1 : Arv Z h0 a kc .char n (cs.map Value.int) (.int 0)) (S1 : Str Z h0 t ts) :
    Ctr false EL1 Z l (⟨"com/example/countersign/countersign/CommandLogIsSwitchPinLaw", "put", "([CILjava/lang/String;CZIC)V"⟩ : MethodName) method_3_code 7 none ({ frames := 5, cells := 0, slots := 0, locals := 69 } : Room) #[(.ref a), (.int (Int32.ofNat i)), (.ref t), (.int x), (.int mu), (.int pp), (.int y)] h0 [] (fun v h sf => v = none ∧ ∃ cs' : List Int32, Keep h0 h [a] ∧ Arv Z h a kc .char n (cs'.map Value.int) (.int 0) ∧ cs'.length = cs.length ∧ Lat cs') := by
  refine ctrOf (a0 := a0) (plainFor_of_name pn1) (elw G) O0 ?_
  intro p e s m below meth c T0 w0'
  have w0 : Wk false EL1 Z a0 "com/example/countersign/countersign/CommandLogIsSwitchPinLaw" method_3_code 7 none "put" p l e ({ frames := 5, cells := 0, slots := 0, locals := 69 } : Room) s m #[(.ref a), (.int (Int32.ofNat i)), (.ref t), (.int x), (.int mu), (.int pp), (.int y)] below meth c T0 h0 [] 0 0 := w0'
  refine goEntry (ef_c3 m a kc n cs hl hb i hi t ts hts x bx mu pp y by_) ?_
  refine gIloadN (pc' := 1) w0 d3_0 rfl rfl ?_
  refine gAloadN (pc' := 2) w0 d3_1 rfl rfl rfl ?_
  refine wLen (pc' := 3) w0 A1 d3_2 rfl ?_
  by_cases hc3_1 : (Int32.ofNat i) < n
  · skip
    refine gIcN (pc' := 6) w0 d3_3 (tlt hc3_1).2.1 rfl ?_
    refine gAloadN (pc' := 7) w0 d3_6 rfl rfl rfl ?_
    refine gIloadN (pc' := 8) w0 d3_7 rfl rfl ?_
    refine gIload (pc' := 10) w0 d3_8 rfl rfl ?_
    by_cases hc10_2 : mu = (0 : Int32)
    · skip
      refine gIfY (pc' := 24) w0 d3_10 (teq hc10_2).1 (by decide) (by decide) ?_
      refine gAloadN (pc' := 25) w0 d3_24 rfl rfl rfl ?_
      refine gIloadN (pc' := 26) w0 d3_25 rfl rfl ?_
      refine gIloadN (pc' := 27) w0 d3_26 rfl rfl ?_
      refine wCallS (pc' := 30) w0 (c4 G l w0.old t ts i hi x bx hts S1) (fun q => q) (fun _ q => nomatch q) (tw27 G) (tw28 G) (tw25 G) (tw29 G) (by decide) [(.ref t), (.int (Int32.ofNat i)), (.int x)] [(.int (Int32.ofNat i)), (.ref a)] (ps := [(.object "java/lang/String"), .int, .char]) (rt := some .char) pd1 rfl rfl rfl rfl (swS catI (swS cat1 sw0)) (by decide) (by decide) (by decide) (by decide) d3_27 rfl ?_
      intro v3 T3 h3 w3 q3
      obtain ⟨u3, rfl, bu3, rfl⟩ := q3
      refine wStC (pc' := 31) w3 A1 ⟨pos32 (by omega), hc3_1⟩ i (n32c (by omega)) (by rw [List.length_map, hl]; exact own_in hi hc3_1) g (w3.safeArv A1 (fun q => nomatch q)) d3_30 rfl ?_
      intro T4 h4 w4 K4 A4
      have B4 : Arv Z h4 a kc .char n ((cs.set i u3).map Value.int) (.int 0) := by have q : nar .char u3 = u3 := i2c_small bu3; rw [q, ← List.map_set] at A4; exact A4
      refine wRetVoid w4 d3_31 (by decide) (by decide) ?_
      exact ⟨rfl, (cs.set i u3), ((Keep.refl _ [a]).trans K4 (allS (Or.inl (List.mem_cons_self ..)) all0)), B4, List.length_set, (hb.set bu3)⟩
    · skip
      refine gIfN (pc' := 13) w0 d3_10 (feq hc10_2).1 rfl ?_
      refine gIloadN (pc' := 14) w0 d3_13 rfl rfl ?_
      refine gIload (pc' := 16) w0 d3_14 rfl rfl ?_
      by_cases hc16_5 : (Int32.ofNat i) = pp
      · skip
        refine gIcN (pc' := 19) w0 d3_16 (teq hc16_5).2 rfl ?_
        refine gIload (pc' := 21) w0 d3_19 rfl rfl ?_
        refine gGoto (pc' := 30) w0 d3_21 (by decide) (by decide) ?_
        refine wStC (pc' := 31) w0 A1 ⟨pos32 (by omega), hc3_1⟩ i (n32c (by omega)) (by rw [List.length_map, hl]; exact own_in hi hc3_1) g (w0.safeArv A1 (fun q => nomatch q)) d3_30 rfl ?_
        intro T6 h6 w6 K6 A6
        have B6 : Arv Z h6 a kc .char n ((cs.set i y).map Value.int) (.int 0) := by have q : nar .char y = y := i2c_small by_; rw [q, ← List.map_set] at A6; exact A6
        refine wRetVoid w6 d3_31 (by decide) (by decide) ?_
        exact ⟨rfl, (cs.set i y), ((Keep.refl _ [a]).trans K6 (allS (Or.inl (List.mem_cons_self ..)) all0)), B6, List.length_set, (hb.set by_)⟩
      · skip
        refine gIcY (pc' := 24) w0 d3_16 (feq hc16_5).2 (by decide) (by decide) ?_
        refine gAloadN (pc' := 25) w0 d3_24 rfl rfl rfl ?_
        refine gIloadN (pc' := 26) w0 d3_25 rfl rfl ?_
        refine gIloadN (pc' := 27) w0 d3_26 rfl rfl ?_
        refine wCallS (pc' := 30) w0 (c4 G l w0.old t ts i hi x bx hts S1) (fun q => q) (fun _ q => nomatch q) (tw27 G) (tw28 G) (tw25 G) (tw29 G) (by decide) [(.ref t), (.int (Int32.ofNat i)), (.int x)] [(.int (Int32.ofNat i)), (.ref a)] (ps := [(.object "java/lang/String"), .int, .char]) (rt := some .char) pd1 rfl rfl rfl rfl (swS catI (swS cat1 sw0)) (by decide) (by decide) (by decide) (by decide) d3_27 rfl ?_
        intro v7 T7 h7 w7 q7
        obtain ⟨u7, rfl, bu7, rfl⟩ := q7
        refine wStC (pc' := 31) w7 A1 ⟨pos32 (by omega), hc3_1⟩ i (n32c (by omega)) (by rw [List.length_map, hl]; exact own_in hi hc3_1) g (w7.safeArv A1 (fun q => nomatch q)) d3_30 rfl ?_
        intro T8 h8 w8 K8 A8
        have B8 : Arv Z h8 a kc .char n ((cs.set i u7).map Value.int) (.int 0) := by have q : nar .char u7 = u7 := i2c_small bu7; rw [q, ← List.map_set] at A8; exact A8
        refine wRetVoid w8 d3_31 (by decide) (by decide) ?_
        exact ⟨rfl, (cs.set i u7), ((Keep.refl _ [a]).trans K8 (allS (Or.inl (List.mem_cons_self ..)) all0)), B8, List.length_set, (hb.set bu7)⟩
  · skip
    refine gIcY (pc' := 31) w0 d3_3 (flt hc3_1).2.1 (by decide) (by decide) ?_
    refine wRetVoid w0 d3_31 (by decide) (by decide) ?_
    exact ⟨rfl, cs, (Keep.refl _ [a]), A1, rfl, hb⟩
theorem d16_0 : decode prog_9_method_2_code 0 = .ok (.aload_n 0, 1) := by decide +kernel
theorem d16_1 : decode prog_9_method_2_code 1 = .ok (.ldc 9, 2) := by decide +kernel
theorem tw78 {Z : State} {a0 : Array Value} {cz : Int32} {fm : Value} (G : Gl Z a0 cz fm) : (Jvm.Cond.methodLink "com/example/countersign/countersign/CommandLog" (11 : Nat) ({ cls := "java/lang/String", name := "equals", desc := "(Ljava/lang/Object;)Z" } : Jvm.MethodName)).before a0 Z = true := G.1 _ (List.mem_of_getElem? (i := 78) rfl)
theorem tw79 {Z : State} {a0 : Array Value} {cz : Int32} {fm : Value} (G : Gl Z a0 cz fm) : (Jvm.Cond.declares ({ cls := "java/lang/String", name := "equals", desc := "(Ljava/lang/Object;)Z" } : Jvm.MethodName)).before a0 Z = true := G.1 _ (List.mem_of_getElem? (i := 79) rfl)
theorem tw81 {Z : State} {a0 : Array Value} {cz : Int32} {fm : Value} (G : Gl Z a0 cz fm) : (Jvm.Cond.selects "java/lang/String" ({ cls := "java/lang/String", name := "equals", desc := "(Ljava/lang/Object;)Z" } : Jvm.MethodName) ({ cls := "java/lang/String", name := "equals", desc := "(Ljava/lang/Object;)Z" } : Jvm.MethodName)).before a0 Z = true := G.1 _ (List.mem_of_getElem? (i := 81) rfl)
theorem tw80 {Z : State} {a0 : Array Value} {cz : Int32} {fm : Value} (G : Gl Z a0 cz fm) : (Jvm.Cond.instanceMethod ({ cls := "java/lang/String", name := "equals", desc := "(Ljava/lang/Object;)Z" } : Jvm.MethodName)).before a0 Z = true := G.1 _ (List.mem_of_getElem? (i := 80) rfl)
theorem d16_3 : decode prog_9_method_2_code 3 = .ok (.invokevirtual 11, 3) := by decide +kernel
theorem d16_6 : decode prog_9_method_2_code 6 = .ok (.ifCond .ne 12, 3) := by decide +kernel
theorem d16_9 : decode prog_9_method_2_code 9 = .ok (.aload_n 0, 1) := by decide +kernel
theorem d16_10 : decode prog_9_method_2_code 10 = .ok (.ldc 17, 2) := by decide +kernel
theorem d16_12 : decode prog_9_method_2_code 12 = .ok (.invokevirtual 11, 3) := by decide +kernel
theorem d16_15 : decode prog_9_method_2_code 15 = .ok (.ifCond .eq 7, 3) := by decide +kernel
theorem d16_22 : decode prog_9_method_2_code 22 = .ok (.iconst 0, 1) := by decide +kernel
theorem d16_23 : decode prog_9_method_2_code 23 = .ok (.ireturn, 1) := by decide +kernel
theorem d16_18 : decode prog_9_method_2_code 18 = .ok (.iconst 1, 1) := by decide +kernel
theorem d16_19 : decode prog_9_method_2_code 19 = .ok (.goto 4, 3) := by decide +kernel
theorem pn2 : plainName "com/example/countersign/countersign/CommandLog" = true := by first | (simp [plainName, overriddenIn]; done) | decide +kernel
set_option maxHeartbeats 4000000 in
theorem ef_c16 (m : MethodId) (a : Addr) (cs : List Int32) : entryFrame m #[(.ref a)] 1 = mkF m 0 #[.val (.ref a)] [] := by first | (simp [entryFrame, mkF, argsToLocals, Value.category, maxLocals]; done) | rfl
set_option maxRecDepth 65536 in
set_option maxHeartbeats 40000000 in
theorem c16 {Z : State} {a0 : Array Value} {cz : Int32} {fm : Value} (G : Gl Z a0 cz fm) (l : Launch) {h0 : Heap} (O0 : Ext Z.heap h0) (a : Addr) (cs : List Int32) (S1 : Str Z h0 a cs) :
    Ctr false EL1 Z l (⟨"com/example/countersign/countersign/CommandLog", "isSwitch", "(Ljava/lang/String;)Z"⟩ : MethodName) prog_9_method_2_code 1 (some .boolean) ({ frames := 2, cells := 4, slots := 52, locals := 28 } : Room) #[(.ref a)] h0 [] (fun v h sf => ∃ z : Int32, v = some (.int z) ∧ Keep h0 h [] ∧ ((z = 1 ∧ (cs = ([45, 45, 118, 101, 114, 98, 111, 115, 101] : List Int32) ∨ cs = ([45, 118] : List Int32))) ∨ (z = 0 ∧ ¬ (cs = ([45, 45, 118, 101, 114, 98, 111, 115, 101] : List Int32) ∨ cs = ([45, 118] : List Int32))))) := by
  refine ctrOf (a0 := a0) (plainFor_of_name pn2) (elw G) O0 ?_
  intro p e s m below meth c T0 w0'
  have w0 : Wk false EL1 Z a0 "com/example/countersign/countersign/CommandLog" prog_9_method_2_code 1 (some .boolean) "isSwitch" p l e ({ frames := 2, cells := 4, slots := 52, locals := 28 } : Room) s m #[(.ref a)] below meth c T0 h0 [] 0 0 := w0'
  refine goEntry (ef_c16 m a cs) ?_
  refine gAloadN (pc' := 1) w0 d16_0 rfl rfl rfl ?_
  refine wLdcC (pc' := 3) w0 (tw77 G) (strat G) (List.mem_cons_of_mem _ (List.mem_cons_self ..)) (vs := [(.int (45 : Int32)), (.int (45 : Int32)), (.int (118 : Int32)), (.int (101 : Int32)), (.int (114 : Int32)), (.int (98 : Int32)), (.int (111 : Int32)), (.int (115 : Int32)), (.int (101 : Int32))]) (z := (9 : Int32)) ⟨by decide, by decide⟩ (by decide) (by decide) (n := 36) (by decide) (by decide) d16_1 rfl (by decide) (by decide) ?_
  intro T1 h1 L1 B1 kb1 w1 K1 E1 Cd1 Vl1 Ar1 ne1
  have S2 : Str Z h1 L1 [(45 : Int32), (45 : Int32), (118 : Int32), (101 : Int32), (114 : Int32), (98 : Int32), (111 : Int32), (115 : Int32), (101 : Int32)] := ⟨B1, kb1, 0, 9, _, E1, Vl1, Cd1, Ar1, Or.inl ⟨rfl, rfl, by first | rfl | decide, by decide⟩, by decide, by decide⟩
  have K0_1_4 : Keep h0 h1 [] := K1
  have F3 : Str Z h1 a cs := S1.keep K0_1_4
  refine wStrEq (pc' := 6) w1 (streqw G) (tw2 G) (tw78 G) (tw79 G) (tw81 G) (tw80 G) F3 S2 (cst G).1 (cst G).2 [] rfl sw0 (by decide) (by decide) (by decide) (by decide) d16_3 rfl ?_
  intro T5 z5 w5 e5
  by_cases hc6_6 : z5 = (0 : Int32)
  · skip
    refine gIfN (pc' := 9) w5 d16_6 (teq hc6_6).2 rfl ?_
    refine gAloadN (pc' := 10) w5 d16_9 rfl rfl rfl ?_
    refine wLdcC (pc' := 12) w5 (tw88 G) (strat G) (List.mem_cons_of_mem _ (List.mem_cons_of_mem _ (List.mem_cons_self ..))) (vs := [(.int (45 : Int32)), (.int (118 : Int32))]) (z := (2 : Int32)) ⟨by decide, by decide⟩ (by decide) (by decide) (n := 8) (by decide) (by decide) d16_10 rfl (by decide) (by decide) ?_
    intro T7 h7 L7 B7 kb7 w7 K7 E7 Cd7 Vl7 Ar7 ne7
    have S8 : Str Z h7 L7 [(45 : Int32), (118 : Int32)] := ⟨B7, kb7, 0, 2, _, E7, Vl7, Cd7, Ar7, Or.inl ⟨rfl, rfl, by first | rfl | decide, by decide⟩, by decide, by decide⟩
    have K1_2_10 : Keep h1 h7 [] := K7
    have F9 : Str Z h7 a cs := F3.keep K1_2_10
    refine wStrEq (pc' := 15) w7 (streqw G) (tw2 G) (tw78 G) (tw79 G) (tw81 G) (tw80 G) F9 S8 (cst G).1 (cst G).2 [] rfl sw0 (by decide) (by decide) (by decide) (by decide) d16_12 rfl ?_
    intro T11 z11 w11 e11
    by_cases hc15_12 : z11 = (0 : Int32)
    · skip
      refine gIfY (pc' := 22) w11 d16_15 (teq hc15_12).1 (by decide) (by decide) ?_
      refine gIconst (pc' := 23) w11 d16_22 rfl (z := (0 : Int32)) rfl ?_
      have K0_2_13 : Keep h0 h7 [] := (K0_1_4.trans K7 all0)
      refine wRetZ w11 d16_23 (Or.inl rfl) (by decide) (by decide) ?_
      exact ⟨_, rfl, K0_2_13, Or.inr ⟨rfl, fun q => q.elim (eqF e5 hc6_6) (eqF e11 hc15_12)⟩⟩
    · skip
      refine gIfN (pc' := 18) w11 d16_15 (feq hc15_12).1 rfl ?_
      refine gIconst (pc' := 19) w11 d16_18 rfl (z := (1 : Int32)) rfl ?_
      refine gGoto (pc' := 23) w11 d16_19 (by decide) (by decide) ?_
      have K0_2_14 : Keep h0 h7 [] := (K0_1_4.trans K7 all0)
      refine wRetZ w11 d16_23 (Or.inr rfl) (by decide) (by decide) ?_
      exact ⟨_, rfl, K0_2_14, Or.inl ⟨rfl, Or.inr (eqT e11 hc15_12)⟩⟩
  · skip
    refine gIfY (pc' := 18) w5 d16_6 (feq hc6_6).2 (by decide) (by decide) ?_
    refine gIconst (pc' := 19) w5 d16_18 rfl (z := (1 : Int32)) rfl ?_
    refine gGoto (pc' := 23) w5 d16_19 (by decide) (by decide) ?_
    refine wRetZ w5 d16_23 (Or.inr rfl) (by decide) (by decide) ?_
    exact ⟨_, rfl, K0_1_4, Or.inl ⟨rfl, Or.inl (eqT e5 hc6_6)⟩⟩
theorem rem11 (x : Int32) : ¬ ((x &&& 2147483647) % 11) < 0 ∧ ¬ (10 : Int32) < ((x &&& 2147483647) % 11) := by
  have h := (c_and x 2147483647 (by decide)).1
  have e0 : (0 : Int32).toInt = 0 := by decide
  have e10 : (10 : Int32).toInt = 10 := by decide
  have e11 : (11 : Int32).toInt = 11 := by decide
  have r := (c_iremV (x &&& 2147483647) 11).1 h (by decide)
  rw [e11] at r
  simp only [Int32.lt_iff_toInt_lt, e0, e10]; omega
theorem cap10 {n : Int32} (h : ¬ n < 0 ∧ ¬ (10 : Int32) < n) : n.toNatClampNeg ≤ 10 := by
  have e0 : (0 : Int32).toInt = 0 := by decide
  have e10 : (10 : Int32).toInt = 10 := by decide
  simp only [Int32.lt_iff_toInt_lt, e0, e10] at h
  simp only [Int32.toNatClampNeg]; omega
theorem toN {n : Int32} (h : ¬ n < 0 ∧ ¬ (10 : Int32) < n) {k : Nat} (hk : k = n.toNatClampNeg) : n = Int32.ofNat k := by
  have e0 : (0 : Int32).toInt = 0 := by decide
  have e10 : (10 : Int32).toInt = 10 := by decide
  simp only [Int32.lt_iff_toInt_lt, e0, e10] at h
  have q : k ≤ 4000 := by rw [hk]; simp only [Int32.toNatClampNeg]; omega
  apply Int32.toInt_inj.mp
  rw [n32i q, hk]; simp only [Int32.toNatClampNeg]; omega
theorem le_slots {a b n : Nat} (h : a + 10 ≤ b) (q : n ≤ 10) : a + n ≤ b := by omega
theorem tw21 {Z : State} {a0 : Array Value} {cz : Int32} {fm : Value} (G : Gl Z a0 cz fm) : (Jvm.Cond.constant "com/example/countersign/countersign/CommandLogIsSwitchPinLaw" (27 : Nat) (2147483647 : Int32)).before a0 Z = true := G.1 _ (List.mem_of_getElem? (i := 21) rfl)
theorem tw22 {Z : State} {a0 : Array Value} {cz : Int32} {fm : Value} (G : Gl Z a0 cz fm) : (Jvm.Cond.arrayClass Jvm.ClassFile.FieldType.char).before a0 Z = true := G.1 _ (List.mem_of_getElem? (i := 22) rfl)
theorem tw23 {Z : State} {a0 : Array Value} {cz : Int32} {fm : Value} (G : Gl Z a0 cz fm) : (Jvm.Cond.methodLink "com/example/countersign/countersign/CommandLogIsSwitchPinLaw" (28 : Nat) ({ cls := "com/example/countersign/countersign/CommandLogIsSwitchPinLaw", name := "put", desc := "([CILjava/lang/String;CZIC)V" } : Jvm.MethodName)).before a0 Z = true := G.1 _ (List.mem_of_getElem? (i := 23) rfl)
theorem tw26 {Z : State} {a0 : Array Value} {cz : Int32} {fm : Value} (G : Gl Z a0 cz fm) : (Jvm.Cond.code ({ cls := "com/example/countersign/countersign/CommandLogIsSwitchPinLaw", name := "put", desc := "([CILjava/lang/String;CZIC)V" } : Jvm.MethodName) method_3_code (7 : Nat) (Option.none : Option Jvm.ClassFile.FieldType)).before a0 Z = true := G.1 _ (List.mem_of_getElem? (i := 26) rfl)
theorem pd2 : parseMethodDescriptor "([CILjava/lang/String;CZIC)V" = some ⟨[(.array .char), .int, (.object "java/lang/String"), .char, .boolean, .int, .char], none⟩ := by decide +kernel
theorem tw24 {Z : State} {a0 : Array Value} {cz : Int32} {fm : Value} (G : Gl Z a0 cz fm) : (Jvm.Cond.static ({ cls := "com/example/countersign/countersign/CommandLogIsSwitchPinLaw", name := "put", desc := "([CILjava/lang/String;CZIC)V" } : Jvm.MethodName)).before a0 Z = true := G.1 _ (List.mem_of_getElem? (i := 24) rfl)
theorem tw52 {Z : State} {a0 : Array Value} {cz : Int32} {fm : Value} (G : Gl Z a0 cz fm) : (Jvm.Cond.classLink "com/example/countersign/countersign/CommandLogIsSwitchPinLaw" (8 : Nat) "java/lang/String").before a0 Z = true := G.1 _ (List.mem_of_getElem? (i := 52) rfl)
theorem tw53 {Z : State} {a0 : Array Value} {cz : Int32} {fm : Value} (G : Gl Z a0 cz fm) : (Jvm.Cond.methodLink "com/example/countersign/countersign/CommandLogIsSwitchPinLaw" (32 : Nat) ({ cls := "java/lang/String", name := "<init>", desc := "([C)V" } : Jvm.MethodName)).before a0 Z = true := G.1 _ (List.mem_of_getElem? (i := 53) rfl)
theorem tw55 {Z : State} {a0 : Array Value} {cz : Int32} {fm : Value} (G : Gl Z a0 cz fm) : (Jvm.Cond.code ({ cls := "java/lang/String", name := "<init>", desc := "([C)V" } : Jvm.MethodName) jdk_42_method_3_code (2 : Nat) (Option.none : Option Jvm.ClassFile.FieldType)).before a0 Z = true := G.1 _ (List.mem_of_getElem? (i := 55) rfl)
theorem pd3 : parseMethodDescriptor "([C)V" = some ⟨[(.array .char)], none⟩ := by decide +kernel
theorem tw54 {Z : State} {a0 : Array Value} {cz : Int32} {fm : Value} (G : Gl Z a0 cz fm) : (Jvm.Cond.instanceMethod ({ cls := "java/lang/String", name := "<init>", desc := "([C)V" } : Jvm.MethodName)).before a0 Z = true := G.1 _ (List.mem_of_getElem? (i := 54) rfl)
theorem tw73 {Z : State} {a0 : Array Value} {cz : Int32} {fm : Value} (G : Gl Z a0 cz fm) : (Jvm.Cond.methodLink "com/example/countersign/countersign/CommandLogIsSwitchPinLaw" (35 : Nat) ({ cls := "com/example/countersign/countersign/CommandLog", name := "isSwitch", desc := "(Ljava/lang/String;)Z" } : Jvm.MethodName)).before a0 Z = true := G.1 _ (List.mem_of_getElem? (i := 73) rfl)
theorem tw76 {Z : State} {a0 : Array Value} {cz : Int32} {fm : Value} (G : Gl Z a0 cz fm) : (Jvm.Cond.code ({ cls := "com/example/countersign/countersign/CommandLog", name := "isSwitch", desc := "(Ljava/lang/String;)Z" } : Jvm.MethodName) prog_9_method_2_code (1 : Nat) (Option.some Jvm.ClassFile.FieldType.boolean)).before a0 Z = true := G.1 _ (List.mem_of_getElem? (i := 76) rfl)
theorem pd4 : parseMethodDescriptor "(Ljava/lang/String;)Z" = some ⟨[(.object "java/lang/String")], some .boolean⟩ := by decide +kernel
theorem tw75 {Z : State} {a0 : Array Value} {cz : Int32} {fm : Value} (G : Gl Z a0 cz fm) : (Jvm.Cond.initialized "com/example/countersign/countersign/CommandLog").before a0 Z = true := G.1 _ (List.mem_of_getElem? (i := 75) rfl)
theorem tw74 {Z : State} {a0 : Array Value} {cz : Int32} {fm : Value} (G : Gl Z a0 cz fm) : (Jvm.Cond.static ({ cls := "com/example/countersign/countersign/CommandLog", name := "isSwitch", desc := "(Ljava/lang/String;)Z" } : Jvm.MethodName)).before a0 Z = true := G.1 _ (List.mem_of_getElem? (i := 74) rfl)
set_option maxHeartbeats 4000000 in
theorem ef_c0 (m : MethodId) (p0 : Int32) (p1 : Int32) (p2 : Int32) (p3 : Int32) : entryFrame m #[(.int p0), (.int p1), (.int p2), (.int p3)] maxLocals = mkF m 0 #[.val (.int p0), .val (.int p1), .val (.int p2), .val (.int p3), .unset, .unset, .unset, .unset, .unset, .unset, .unset, .unset, .unset, .unset, .unset, .unset, .unset] [] := by first | (simp [entryFrame, mkF, argsToLocals, Value.category, maxLocals]; done) | rfl
set_option maxRecDepth 65536 in
set_option maxHeartbeats 40000000 in
theorem c0 {Z : State} {a0 : Array Value} {cz : Int32} {fm : Value} (G : Gl Z a0 cz fm) (l : Launch) {h0 : Heap} (O0 : Ext Z.heap h0) (p0 : Int32) (p1 : Int32) (p2 : Int32) (p3 : Int32)  :
    Ctr false EL1 Z l x code maxLocals ret room_1 #[(.int p0), (.int p1), (.int p2), (.int p3)] h0 [] (fun v h sf => v = some (.int (1 : Int32))) := by
  refine ctrOf (a0 := a0) (plainFor_of_name pn1) (elw G) O0 ?_
  intro p e s m below meth c T0 w0'
  have w0 : Wk false EL1 Z a0 "com/example/countersign/countersign/CommandLogIsSwitchPinLaw" code maxLocals ret "law" p l e room_1 s m #[(.int p0), (.int p1), (.int p2), (.int p3)] below meth c T0 h0 [] 0 0 := w0'
  refine goEntry (ef_c0 m p0 p1 p2 p3) ?_
  refine gIloadN (pc' := 1) w0 at_0 rfl rfl ?_
  refine gIconst (pc' := 2) w0 at_1 rfl (z := (1 : Int32)) rfl ?_
  refine gIand (pc' := 3) w0 at_2 rfl ?_
  suffices hJ1 : ∀ (x_1 : Int32), (((p0 &&& (1 : Int32)) = (0 : Int32) ∧ x_1 = (1 : Int32)) ∨ (¬ (p0 &&& (1 : Int32)) = (0 : Int32) ∧ x_1 = (0 : Int32))) → Go p e below (Pst false EL1 Z s room_1 (fun v h sf => v = some (.int (1 : Int32)))) (T0.setTop (mkF m 11 #[.val (.int p0), .val (.int p1), .val (.int p2), .val (.int p3), .unset, .unset, .unset, .unset, .unset, .unset, .unset, .unset, .unset, .unset, .unset, .unset, .unset] [(.int x_1)])) by
    by_cases hc3_2 : (p0 &&& (1 : Int32)) = (0 : Int32)
    · skip
      refine gIfN (pc' := 6) w0 at_3 (teq hc3_2).2 rfl ?_
      refine gIconst (pc' := 7) w0 at_6 rfl (z := (1 : Int32)) rfl ?_
      refine gGoto (pc' := 11) w0 at_7 (by decide) (by decide) ?_
      exact hJ1 (1 : Int32) (Or.inl ⟨hc3_2, rfl⟩)
    · skip
      refine gIfY (pc' := 10) w0 at_3 (feq hc3_2).2 (by decide) (by decide) ?_
      refine gIconst (pc' := 11) w0 at_10 rfl (z := (0 : Int32)) rfl ?_
      exact hJ1 (0 : Int32) (Or.inr ⟨hc3_2, rfl⟩)
  intro x_1 f1
  refine gIstore (pc' := 13) w0 at_11 rfl (Ls' := #[.val (.int p0), .val (.int p1), .val (.int p2), .val (.int p3), .val (.int x_1), .unset, .unset, .unset, .unset, .unset, .unset, .unset, .unset, .unset, .unset, .unset, .unset]) rfl ?_
  refine gIload (pc' := 15) w0 at_13 rfl rfl ?_
  by_cases hc15_3 : x_1 = (0 : Int32)
  · skip
    refine gIfY (pc' := 23) w0 at_15 (teq hc15_3).1 (by decide) (by decide) ?_
    refine wLdcC (pc' := 25) w0 (tw89 G) (strat G) (List.mem_cons_of_mem _ (List.mem_cons_of_mem _ (List.mem_cons_of_mem _ (List.mem_cons_of_mem _ (List.mem_cons_self ..))))) (vs := [(.int (45 : Int32)), (.int (118 : Int32))]) (z := (2 : Int32)) ⟨by decide, by decide⟩ (by decide) (by decide) (n := 8) (by decide) (by decide) at_23 rfl (by decide) (by decide) ?_
    intro T4 h4 L4 B4 kb4 w4 K4 E4 Cd4 Vl4 Ar4 ne4
    have S5 : Str Z h4 L4 [(45 : Int32), (118 : Int32)] := ⟨B4, kb4, 0, 2, _, E4, Vl4, Cd4, Ar4, Or.inl ⟨rfl, rfl, by first | rfl | decide, by decide⟩, by decide, by decide⟩
    refine gAstore (pc' := 27) w4 at_25 rfl rfl (Ls' := #[.val (.int p0), .val (.int p1), .val (.int p2), .val (.int p3), .val (.int x_1), .val (.ref L4), .unset, .unset, .unset, .unset, .unset, .unset, .unset, .unset, .unset, .unset, .unset]) rfl ?_
    refine gIloadN (pc' := 28) w4 at_27 rfl rfl ?_
    refine gIconst (pc' := 29) w4 at_28 rfl (z := (1 : Int32)) rfl ?_
    refine gIushr (pc' := 30) w4 at_29 rfl ?_
    refine gIconst (pc' := 31) w4 at_30 rfl (z := (1 : Int32)) rfl ?_
    refine gIand (pc' := 32) w4 at_31 rfl ?_
    suffices hJ6 : ∀ (x_6 : Int32), ((((XT.ushr p0 (1 : Int32)) &&& (1 : Int32)) = (0 : Int32) ∧ x_6 = (0 : Int32)) ∨ (¬ ((XT.ushr p0 (1 : Int32)) &&& (1 : Int32)) = (0 : Int32) ∧ x_6 = (1 : Int32))) → Go p e below (Pst false EL1 Z s room_1 (fun v h sf => v = some (.int (1 : Int32)))) (T4.setTop (mkF m 40 #[.val (.int p0), .val (.int p1), .val (.int p2), .val (.int p3), .val (.int x_1), .val (.ref L4), .unset, .unset, .unset, .unset, .unset, .unset, .unset, .unset, .unset, .unset, .unset] [(.int x_6)])) by
      by_cases hc32_7 : ((XT.ushr p0 (1 : Int32)) &&& (1 : Int32)) = (0 : Int32)
      · skip
        refine gIfY (pc' := 39) w4 at_32 (teq hc32_7).1 (by decide) (by decide) ?_
        refine gIconst (pc' := 40) w4 at_39 rfl (z := (0 : Int32)) rfl ?_
        exact hJ6 (0 : Int32) (Or.inl ⟨hc32_7, rfl⟩)
      · skip
        refine gIfN (pc' := 35) w4 at_32 (feq hc32_7).1 rfl ?_
        refine gIconst (pc' := 36) w4 at_35 rfl (z := (1 : Int32)) rfl ?_
        refine gGoto (pc' := 40) w4 at_36 (by decide) (by decide) ?_
        exact hJ6 (1 : Int32) (Or.inr ⟨hc32_7, rfl⟩)
    intro x_6 f6
    refine gIstore (pc' := 42) w4 at_40 rfl (Ls' := #[.val (.int p0), .val (.int p1), .val (.int p2), .val (.int p3), .val (.int x_1), .val (.ref L4), .val (.int x_6), .unset, .unset, .unset, .unset, .unset, .unset, .unset, .unset, .unset, .unset]) rfl ?_
    refine gIloadN (pc' := 43) w4 at_42 rfl rfl ?_
    refine gIconst (pc' := 44) w4 at_43 rfl (z := (2 : Int32)) rfl ?_
    refine gIushr (pc' := 45) w4 at_44 rfl ?_
    refine gIconst (pc' := 46) w4 at_45 rfl (z := (3 : Int32)) rfl ?_
    refine gIand (pc' := 47) w4 at_46 rfl ?_
    refine gIstore (pc' := 49) w4 at_47 rfl (Ls' := #[.val (.int p0), .val (.int p1), .val (.int p2), .val (.int p3), .val (.int x_1), .val (.ref L4), .val (.int x_6), .val (.int ((XT.ushr p0 (2 : Int32)) &&& (3 : Int32))), .unset, .unset, .unset, .unset, .unset, .unset, .unset, .unset, .unset]) rfl ?_
    refine gAload (pc' := 51) w4 at_49 rfl rfl rfl ?_
    refine wStrLen (pc' := 54) w4 (strlenw G) (tw2 G) (tw8 G) (tw9 G) (tw11 G) (tw10 G) S5 (cst G).1 (cst G).2 [] rfl sw0 (by decide) (by decide) (by decide) (by decide) at_51 rfl ?_
    intro T8 z8 w8 e8
    obtain rfl : z8 = (2 : Int32) := e8
    refine gIstore (pc' := 56) w8 at_54 rfl (Ls' := #[.val (.int p0), .val (.int p1), .val (.int p2), .val (.int p3), .val (.int x_1), .val (.ref L4), .val (.int x_6), .val (.int ((XT.ushr p0 (2 : Int32)) &&& (3 : Int32))), .val (.int (2 : Int32)), .unset, .unset, .unset, .unset, .unset, .unset, .unset, .unset]) rfl ?_
    refine gIload (pc' := 58) w8 at_56 rfl rfl ?_
    suffices hJ9 : ∀ (n_9 : Int32), (¬ n_9 < 0 ∧ ¬ (10 : Int32) < n_9) → Go p e below (Pst false EL1 Z s room_1 (fun v h sf => v = some (.int (1 : Int32)))) (T8.setTop (mkF m 109 #[.val (.int p0), .val (.int p1), .val (.int p2), .val (.int p3), .val (.int x_1), .val (.ref L4), .val (.int x_6), .val (.int ((XT.ushr p0 (2 : Int32)) &&& (3 : Int32))), .val (.int (2 : Int32)), .val (.int n_9), .unset, .unset, .unset, .unset, .unset, .unset, .unset] [])) by
      by_cases hc58_10 : ((XT.ushr p0 (2 : Int32)) &&& (3 : Int32)) = (0 : Int32)
      · skip
        refine gIfN (pc' := 61) w8 at_58 (teq hc58_10).2 rfl ?_
        refine gIload (pc' := 63) w8 at_61 rfl rfl ?_
        refine gIstore (pc' := 65) w8 at_63 rfl (Ls' := #[.val (.int p0), .val (.int p1), .val (.int p2), .val (.int p3), .val (.int x_1), .val (.ref L4), .val (.int x_6), .val (.int ((XT.ushr p0 (2 : Int32)) &&& (3 : Int32))), .val (.int (2 : Int32)), .val (.int (2 : Int32)), .unset, .unset, .unset, .unset, .unset, .unset, .unset]) rfl ?_
        refine gGoto (pc' := 109) w8 at_65 (by decide) (by decide) ?_
        exact hJ9 (2 : Int32) (by decide)
      · skip
        refine gIfY (pc' := 68) w8 at_58 (feq hc58_10).2 (by decide) (by decide) ?_
        refine gIload (pc' := 70) w8 at_68 rfl rfl ?_
        refine gIconst (pc' := 71) w8 at_70 rfl (z := (1 : Int32)) rfl ?_
        by_cases hc71_11 : ((XT.ushr p0 (2 : Int32)) &&& (3 : Int32)) = (1 : Int32)
        · skip
          refine gIcN (pc' := 74) w8 at_71 (teq hc71_11).2 rfl ?_
          refine gIload (pc' := 76) w8 at_74 rfl rfl ?_
          refine gIconst (pc' := 77) w8 at_76 rfl (z := (1 : Int32)) rfl ?_
          refine gIsub (pc' := 78) w8 at_77 rfl ?_
          refine goV (by decide : ((2 : Int32) - (1 : Int32)) = (1 : Int32)) ?_
          refine gIstore (pc' := 80) w8 at_78 rfl (Ls' := #[.val (.int p0), .val (.int p1), .val (.int p2), .val (.int p3), .val (.int x_1), .val (.ref L4), .val (.int x_6), .val (.int ((XT.ushr p0 (2 : Int32)) &&& (3 : Int32))), .val (.int (2 : Int32)), .val (.int (1 : Int32)), .unset, .unset, .unset, .unset, .unset, .unset, .unset]) rfl ?_
          refine gGoto (pc' := 109) w8 at_80 (by decide) (by decide) ?_
          exact hJ9 (1 : Int32) (by decide)
        · skip
          refine gIcY (pc' := 83) w8 at_71 (feq hc71_11).2 (by decide) (by decide) ?_
          refine gIload (pc' := 85) w8 at_83 rfl rfl ?_
          refine gIconst (pc' := 86) w8 at_85 rfl (z := (2 : Int32)) rfl ?_
          by_cases hc86_12 : ((XT.ushr p0 (2 : Int32)) &&& (3 : Int32)) = (2 : Int32)
          · skip
            refine gIcN (pc' := 89) w8 at_86 (teq hc86_12).2 rfl ?_
            refine gIload (pc' := 91) w8 at_89 rfl rfl ?_
            refine gIconst (pc' := 92) w8 at_91 rfl (z := (1 : Int32)) rfl ?_
            refine gIadd (pc' := 93) w8 at_92 rfl ?_
            refine goV (by decide : ((2 : Int32) + (1 : Int32)) = (3 : Int32)) ?_
            refine gIstore (pc' := 95) w8 at_93 rfl (Ls' := #[.val (.int p0), .val (.int p1), .val (.int p2), .val (.int p3), .val (.int x_1), .val (.ref L4), .val (.int x_6), .val (.int ((XT.ushr p0 (2 : Int32)) &&& (3 : Int32))), .val (.int (2 : Int32)), .val (.int (3 : Int32)), .unset, .unset, .unset, .unset, .unset, .unset, .unset]) rfl ?_
            refine gGoto (pc' := 109) w8 at_95 (by decide) (by decide) ?_
            exact hJ9 (3 : Int32) (by decide)
          · skip
            refine gIcY (pc' := 98) w8 at_86 (feq hc86_12).2 (by decide) (by decide) ?_
            refine gIloadN (pc' := 99) w8 at_98 rfl rfl ?_
            refine gIconst (pc' := 100) w8 at_99 rfl (z := (4 : Int32)) rfl ?_
            refine gIushr (pc' := 101) w8 at_100 rfl ?_
            refine gLdcI (pc' := 103) w8 (tw21 G) at_101 rfl ?_
            refine gIand (pc' := 104) w8 at_103 rfl ?_
            refine gBipush (pc' := 106) w8 at_104 rfl (z := (11 : Int32)) rfl ?_
            refine gIrem (pc' := 107) w8 at_106 rfl (by decide) ?_
            refine gIstore (pc' := 109) w8 at_107 rfl (Ls' := #[.val (.int p0), .val (.int p1), .val (.int p2), .val (.int p3), .val (.int x_1), .val (.ref L4), .val (.int x_6), .val (.int ((XT.ushr p0 (2 : Int32)) &&& (3 : Int32))), .val (.int (2 : Int32)), .val (.int (((XT.ushr p1 (4 : Int32)) &&& (2147483647 : Int32)) % (11 : Int32))), .unset, .unset, .unset, .unset, .unset, .unset, .unset]) rfl ?_
            exact hJ9 (((XT.ushr p1 (4 : Int32)) &&& (2147483647 : Int32)) % (11 : Int32)) (rem11 _)
    intro n_9 f9
    refine gIloadN (pc' := 110) w8 at_109 rfl rfl ?_
    refine gLdcI (pc' := 112) w8 (tw21 G) at_110 rfl ?_
    refine gIand (pc' := 113) w8 at_112 rfl ?_
    refine gBipush (pc' := 115) w8 at_113 rfl (z := (10 : Int32)) rfl ?_
    refine gIrem (pc' := 116) w8 at_115 rfl (by decide) ?_
    refine gIstore (pc' := 118) w8 at_116 rfl (Ls' := #[.val (.int p0), .val (.int p1), .val (.int p2), .val (.int p3), .val (.int x_1), .val (.ref L4), .val (.int x_6), .val (.int ((XT.ushr p0 (2 : Int32)) &&& (3 : Int32))), .val (.int (2 : Int32)), .val (.int n_9), .val (.int ((p1 &&& (2147483647 : Int32)) % (10 : Int32))), .unset, .unset, .unset, .unset, .unset, .unset]) rfl ?_
    refine gIloadN (pc' := 119) w8 at_118 rfl rfl ?_
    refine gSipush (pc' := 122) w8 at_119 rfl (z := (255 : Int32)) rfl ?_
    refine gIand (pc' := 123) w8 at_122 rfl ?_
    refine gI2c (pc' := 124) w8 at_123 rfl (z := (p2 &&& (255 : Int32))) (i2c_mask _) ?_
    refine gIstore (pc' := 126) w8 at_124 rfl (Ls' := #[.val (.int p0), .val (.int p1), .val (.int p2), .val (.int p3), .val (.int x_1), .val (.ref L4), .val (.int x_6), .val (.int ((XT.ushr p0 (2 : Int32)) &&& (3 : Int32))), .val (.int (2 : Int32)), .val (.int n_9), .val (.int ((p1 &&& (2147483647 : Int32)) % (10 : Int32))), .val (.int (p2 &&& (255 : Int32))), .unset, .unset, .unset, .unset, .unset]) rfl ?_
    refine gIloadN (pc' := 127) w8 at_126 rfl rfl ?_
    refine gSipush (pc' := 130) w8 at_127 rfl (z := (255 : Int32)) rfl ?_
    refine gIand (pc' := 131) w8 at_130 rfl ?_
    refine gI2c (pc' := 132) w8 at_131 rfl (z := (p3 &&& (255 : Int32))) (i2c_mask _) ?_
    refine gIstore (pc' := 134) w8 at_132 rfl (Ls' := #[.val (.int p0), .val (.int p1), .val (.int p2), .val (.int p3), .val (.int x_1), .val (.ref L4), .val (.int x_6), .val (.int ((XT.ushr p0 (2 : Int32)) &&& (3 : Int32))), .val (.int (2 : Int32)), .val (.int n_9), .val (.int ((p1 &&& (2147483647 : Int32)) % (10 : Int32))), .val (.int (p2 &&& (255 : Int32))), .val (.int (p3 &&& (255 : Int32))), .unset, .unset, .unset, .unset]) rfl ?_
    refine gIload (pc' := 136) w8 at_134 rfl rfl ?_
    refine wNewP (pc' := 138) w8 (ty := .char) rfl (tw22 G) f9.1 10 (cap10 f9) (by decide) at_136 rfl (by decide) (by decide) ?_
    intro T13 h13 b13 kc13 g13 w13 K13 A13
    have A14 : Arv Z h13 b13 kc13 .char n_9 ((List.replicate n_9.toNatClampNeg (0 : Int32)).map Value.int) (.int 0) := by rw [List.map_replicate]; exact A13.pad (pad_rep [] (.int 0) n_9.toNatClampNeg)
    refine gAstore (pc' := 140) w13 at_138 rfl rfl (Ls' := #[.val (.int p0), .val (.int p1), .val (.int p2), .val (.int p3), .val (.int x_1), .val (.ref L4), .val (.int x_6), .val (.int ((XT.ushr p0 (2 : Int32)) &&& (3 : Int32))), .val (.int (2 : Int32)), .val (.int n_9), .val (.int ((p1 &&& (2147483647 : Int32)) % (10 : Int32))), .val (.int (p2 &&& (255 : Int32))), .val (.int (p3 &&& (255 : Int32))), .val (.ref b13), .unset, .unset, .unset]) rfl ?_
    refine gAload (pc' := 142) w13 at_140 rfl rfl rfl ?_
    refine gIconst (pc' := 143) w13 at_142 rfl (z := (0 : Int32)) rfl ?_
    refine gAload (pc' := 145) w13 at_143 rfl rfl rfl ?_
    refine gIload (pc' := 147) w13 at_145 rfl rfl ?_
    refine gIload (pc' := 149) w13 at_147 rfl rfl ?_
    refine gIload (pc' := 151) w13 at_149 rfl rfl ?_
    refine gIload (pc' := 153) w13 at_151 rfl rfl ?_
    have K1_2_16 : Keep h4 h13 [] := K13
    have F15 : Str Z h13 L4 ([45, 118] : List Int32) := S5.keep K1_2_16
    refine wCallS (pc' := 156) w13 (c3 G l w13.old b13 kc13 n_9 (List.replicate n_9.toNatClampNeg (0 : Int32)) List.length_replicate (Lat.rep _) 0 (by decide) L4 ([45, 118] : List Int32) (by unfold Lat; decide) (p2 &&& (255 : Int32)) (m255 _) x_6 ((p1 &&& (2147483647 : Int32)) % (10 : Int32)) (p3 &&& (255 : Int32)) (m255 _) (Nat.le_trans w4.old.1 (Nat.le_of_eq g13.symm)) A14 F15) (fun q => q) (fun _ q => nomatch q) (tw23 G) (tw24 G) (tw25 G) (tw26 G) (by decide) [(.ref b13), (.int (0 : Int32)), (.ref L4), (.int (p2 &&& (255 : Int32))), (.int x_6), (.int ((p1 &&& (2147483647 : Int32)) % (10 : Int32))), (.int (p3 &&& (255 : Int32)))] [] (ps := [(.array .char), .int, (.object "java/lang/String"), .char, .boolean, .int, .char]) (rt := none) pd2 rfl rfl rfl rfl sw0 (by decide) (by decide) (by decide) (by decide) at_153 rfl ?_
    intro v17 T17 h17 w17 q17
    obtain ⟨rfl, cs17, K17, A17, hl17, hb17⟩ := q17
    have hm17 : cs17.length = n_9.toNatClampNeg := hl17.trans List.length_replicate
    refine gAload (pc' := 158) w17 at_156 rfl rfl rfl ?_
    refine gIconst (pc' := 159) w17 at_158 rfl (z := (1 : Int32)) rfl ?_
    refine gAload (pc' := 161) w17 at_159 rfl rfl rfl ?_
    refine gIload (pc' := 163) w17 at_161 rfl rfl ?_
    refine gIload (pc' := 165) w17 at_163 rfl rfl ?_
    refine gIload (pc' := 167) w17 at_165 rfl rfl ?_
    refine gIload (pc' := 169) w17 at_167 rfl rfl ?_
    have K1_3_19 : Keep h4 h17 [] := ((K1_2_16).trans K17 (allS (Or.inr (Nat.le_of_eq g13.symm)) all0))
    have F18 : Str Z h17 L4 ([45, 118] : List Int32) := S5.keep K1_3_19
    refine wCallS (pc' := 172) w17 (c3 G l w17.old b13 kc13 n_9 cs17 hm17 hb17 1 (by decide) L4 ([45, 118] : List Int32) (by unfold Lat; decide) (p2 &&& (255 : Int32)) (m255 _) x_6 ((p1 &&& (2147483647 : Int32)) % (10 : Int32)) (p3 &&& (255 : Int32)) (m255 _) (Nat.le_trans w4.old.1 (Nat.le_of_eq g13.symm)) A17 F18) (fun q => q) (fun _ q => nomatch q) (tw23 G) (tw24 G) (tw25 G) (tw26 G) (by decide) [(.ref b13), (.int (1 : Int32)), (.ref L4), (.int (p2 &&& (255 : Int32))), (.int x_6), (.int ((p1 &&& (2147483647 : Int32)) % (10 : Int32))), (.int (p3 &&& (255 : Int32)))] [] (ps := [(.array .char), .int, (.object "java/lang/String"), .char, .boolean, .int, .char]) (rt := none) pd2 rfl rfl rfl rfl sw0 (by decide) (by decide) (by decide) (by decide) at_169 rfl ?_
    intro v20 T20 h20 w20 q20
    obtain ⟨rfl, cs20, K20, A20, hl20, hb20⟩ := q20
    have hm20 : cs20.length = n_9.toNatClampNeg := hl20.trans hm17
    refine gAload (pc' := 174) w20 at_172 rfl rfl rfl ?_
    refine gIconst (pc' := 175) w20 at_174 rfl (z := (2 : Int32)) rfl ?_
    refine gAload (pc' := 177) w20 at_175 rfl rfl rfl ?_
    refine gIload (pc' := 179) w20 at_177 rfl rfl ?_
    refine gIload (pc' := 181) w20 at_179 rfl rfl ?_
    refine gIload (pc' := 183) w20 at_181 rfl rfl ?_
    refine gIload (pc' := 185) w20 at_183 rfl rfl ?_
    have K1_4_22 : Keep h4 h20 [] := ((K1_3_19).trans K20 (allS (Or.inr (Nat.le_of_eq g13.symm)) all0))
    have F21 : Str Z h20 L4 ([45, 118] : List Int32) := S5.keep K1_4_22
    refine wCallS (pc' := 188) w20 (c3 G l w20.old b13 kc13 n_9 cs20 hm20 hb20 2 (by decide) L4 ([45, 118] : List Int32) (by unfold Lat; decide) (p2 &&& (255 : Int32)) (m255 _) x_6 ((p1 &&& (2147483647 : Int32)) % (10 : Int32)) (p3 &&& (255 : Int32)) (m255 _) (Nat.le_trans w4.old.1 (Nat.le_of_eq g13.symm)) A20 F21) (fun q => q) (fun _ q => nomatch q) (tw23 G) (tw24 G) (tw25 G) (tw26 G) (by decide) [(.ref b13), (.int (2 : Int32)), (.ref L4), (.int (p2 &&& (255 : Int32))), (.int x_6), (.int ((p1 &&& (2147483647 : Int32)) % (10 : Int32))), (.int (p3 &&& (255 : Int32)))] [] (ps := [(.array .char), .int, (.object "java/lang/String"), .char, .boolean, .int, .char]) (rt := none) pd2 rfl rfl rfl rfl sw0 (by decide) (by decide) (by decide) (by decide) at_185 rfl ?_
    intro v23 T23 h23 w23 q23
    obtain ⟨rfl, cs23, K23, A23, hl23, hb23⟩ := q23
    have hm23 : cs23.length = n_9.toNatClampNeg := hl23.trans hm20
    refine gAload (pc' := 190) w23 at_188 rfl rfl rfl ?_
    refine gIconst (pc' := 191) w23 at_190 rfl (z := (3 : Int32)) rfl ?_
    refine gAload (pc' := 193) w23 at_191 rfl rfl rfl ?_
    refine gIload (pc' := 195) w23 at_193 rfl rfl ?_
    refine gIload (pc' := 197) w23 at_195 rfl rfl ?_
    refine gIload (pc' := 199) w23 at_197 rfl rfl ?_
    refine gIload (pc' := 201) w23 at_199 rfl rfl ?_
    have K1_5_25 : Keep h4 h23 [] := ((K1_4_22).trans K23 (allS (Or.inr (Nat.le_of_eq g13.symm)) all0))
    have F24 : Str Z h23 L4 ([45, 118] : List Int32) := S5.keep K1_5_25
    refine wCallS (pc' := 204) w23 (c3 G l w23.old b13 kc13 n_9 cs23 hm23 hb23 3 (by decide) L4 ([45, 118] : List Int32) (by unfold Lat; decide) (p2 &&& (255 : Int32)) (m255 _) x_6 ((p1 &&& (2147483647 : Int32)) % (10 : Int32)) (p3 &&& (255 : Int32)) (m255 _) (Nat.le_trans w4.old.1 (Nat.le_of_eq g13.symm)) A23 F24) (fun q => q) (fun _ q => nomatch q) (tw23 G) (tw24 G) (tw25 G) (tw26 G) (by decide) [(.ref b13), (.int (3 : Int32)), (.ref L4), (.int (p2 &&& (255 : Int32))), (.int x_6), (.int ((p1 &&& (2147483647 : Int32)) % (10 : Int32))), (.int (p3 &&& (255 : Int32)))] [] (ps := [(.array .char), .int, (.object "java/lang/String"), .char, .boolean, .int, .char]) (rt := none) pd2 rfl rfl rfl rfl sw0 (by decide) (by decide) (by decide) (by decide) at_201 rfl ?_
    intro v26 T26 h26 w26 q26
    obtain ⟨rfl, cs26, K26, A26, hl26, hb26⟩ := q26
    have hm26 : cs26.length = n_9.toNatClampNeg := hl26.trans hm23
    refine gAload (pc' := 206) w26 at_204 rfl rfl rfl ?_
    refine gIconst (pc' := 207) w26 at_206 rfl (z := (4 : Int32)) rfl ?_
    refine gAload (pc' := 209) w26 at_207 rfl rfl rfl ?_
    refine gIload (pc' := 211) w26 at_209 rfl rfl ?_
    refine gIload (pc' := 213) w26 at_211 rfl rfl ?_
    refine gIload (pc' := 215) w26 at_213 rfl rfl ?_
    refine gIload (pc' := 217) w26 at_215 rfl rfl ?_
    have K1_6_28 : Keep h4 h26 [] := ((K1_5_25).trans K26 (allS (Or.inr (Nat.le_of_eq g13.symm)) all0))
    have F27 : Str Z h26 L4 ([45, 118] : List Int32) := S5.keep K1_6_28
    refine wCallS (pc' := 220) w26 (c3 G l w26.old b13 kc13 n_9 cs26 hm26 hb26 4 (by decide) L4 ([45, 118] : List Int32) (by unfold Lat; decide) (p2 &&& (255 : Int32)) (m255 _) x_6 ((p1 &&& (2147483647 : Int32)) % (10 : Int32)) (p3 &&& (255 : Int32)) (m255 _) (Nat.le_trans w4.old.1 (Nat.le_of_eq g13.symm)) A26 F27) (fun q => q) (fun _ q => nomatch q) (tw23 G) (tw24 G) (tw25 G) (tw26 G) (by decide) [(.ref b13), (.int (4 : Int32)), (.ref L4), (.int (p2 &&& (255 : Int32))), (.int x_6), (.int ((p1 &&& (2147483647 : Int32)) % (10 : Int32))), (.int (p3 &&& (255 : Int32)))] [] (ps := [(.array .char), .int, (.object "java/lang/String"), .char, .boolean, .int, .char]) (rt := none) pd2 rfl rfl rfl rfl sw0 (by decide) (by decide) (by decide) (by decide) at_217 rfl ?_
    intro v29 T29 h29 w29 q29
    obtain ⟨rfl, cs29, K29, A29, hl29, hb29⟩ := q29
    have hm29 : cs29.length = n_9.toNatClampNeg := hl29.trans hm26
    refine gAload (pc' := 222) w29 at_220 rfl rfl rfl ?_
    refine gIconst (pc' := 223) w29 at_222 rfl (z := (5 : Int32)) rfl ?_
    refine gAload (pc' := 225) w29 at_223 rfl rfl rfl ?_
    refine gIload (pc' := 227) w29 at_225 rfl rfl ?_
    refine gIload (pc' := 229) w29 at_227 rfl rfl ?_
    refine gIload (pc' := 231) w29 at_229 rfl rfl ?_
    refine gIload (pc' := 233) w29 at_231 rfl rfl ?_
    have K1_7_31 : Keep h4 h29 [] := ((K1_6_28).trans K29 (allS (Or.inr (Nat.le_of_eq g13.symm)) all0))
    have F30 : Str Z h29 L4 ([45, 118] : List Int32) := S5.keep K1_7_31
    refine wCallS (pc' := 236) w29 (c3 G l w29.old b13 kc13 n_9 cs29 hm29 hb29 5 (by decide) L4 ([45, 118] : List Int32) (by unfold Lat; decide) (p2 &&& (255 : Int32)) (m255 _) x_6 ((p1 &&& (2147483647 : Int32)) % (10 : Int32)) (p3 &&& (255 : Int32)) (m255 _) (Nat.le_trans w4.old.1 (Nat.le_of_eq g13.symm)) A29 F30) (fun q => q) (fun _ q => nomatch q) (tw23 G) (tw24 G) (tw25 G) (tw26 G) (by decide) [(.ref b13), (.int (5 : Int32)), (.ref L4), (.int (p2 &&& (255 : Int32))), (.int x_6), (.int ((p1 &&& (2147483647 : Int32)) % (10 : Int32))), (.int (p3 &&& (255 : Int32)))] [] (ps := [(.array .char), .int, (.object "java/lang/String"), .char, .boolean, .int, .char]) (rt := none) pd2 rfl rfl rfl rfl sw0 (by decide) (by decide) (by decide) (by decide) at_233 rfl ?_
    intro v32 T32 h32 w32 q32
    obtain ⟨rfl, cs32, K32, A32, hl32, hb32⟩ := q32
    have hm32 : cs32.length = n_9.toNatClampNeg := hl32.trans hm29
    refine gAload (pc' := 238) w32 at_236 rfl rfl rfl ?_
    refine gBipush (pc' := 240) w32 at_238 rfl (z := (6 : Int32)) rfl ?_
    refine gAload (pc' := 242) w32 at_240 rfl rfl rfl ?_
    refine gIload (pc' := 244) w32 at_242 rfl rfl ?_
    refine gIload (pc' := 246) w32 at_244 rfl rfl ?_
    refine gIload (pc' := 248) w32 at_246 rfl rfl ?_
    refine gIload (pc' := 250) w32 at_248 rfl rfl ?_
    have K1_8_34 : Keep h4 h32 [] := ((K1_7_31).trans K32 (allS (Or.inr (Nat.le_of_eq g13.symm)) all0))
    have F33 : Str Z h32 L4 ([45, 118] : List Int32) := S5.keep K1_8_34
    refine wCallS (pc' := 253) w32 (c3 G l w32.old b13 kc13 n_9 cs32 hm32 hb32 6 (by decide) L4 ([45, 118] : List Int32) (by unfold Lat; decide) (p2 &&& (255 : Int32)) (m255 _) x_6 ((p1 &&& (2147483647 : Int32)) % (10 : Int32)) (p3 &&& (255 : Int32)) (m255 _) (Nat.le_trans w4.old.1 (Nat.le_of_eq g13.symm)) A32 F33) (fun q => q) (fun _ q => nomatch q) (tw23 G) (tw24 G) (tw25 G) (tw26 G) (by decide) [(.ref b13), (.int (6 : Int32)), (.ref L4), (.int (p2 &&& (255 : Int32))), (.int x_6), (.int ((p1 &&& (2147483647 : Int32)) % (10 : Int32))), (.int (p3 &&& (255 : Int32)))] [] (ps := [(.array .char), .int, (.object "java/lang/String"), .char, .boolean, .int, .char]) (rt := none) pd2 rfl rfl rfl rfl sw0 (by decide) (by decide) (by decide) (by decide) at_250 rfl ?_
    intro v35 T35 h35 w35 q35
    obtain ⟨rfl, cs35, K35, A35, hl35, hb35⟩ := q35
    have hm35 : cs35.length = n_9.toNatClampNeg := hl35.trans hm32
    refine gAload (pc' := 255) w35 at_253 rfl rfl rfl ?_
    refine gBipush (pc' := 257) w35 at_255 rfl (z := (7 : Int32)) rfl ?_
    refine gAload (pc' := 259) w35 at_257 rfl rfl rfl ?_
    refine gIload (pc' := 261) w35 at_259 rfl rfl ?_
    refine gIload (pc' := 263) w35 at_261 rfl rfl ?_
    refine gIload (pc' := 265) w35 at_263 rfl rfl ?_
    refine gIload (pc' := 267) w35 at_265 rfl rfl ?_
    have K1_9_37 : Keep h4 h35 [] := ((K1_8_34).trans K35 (allS (Or.inr (Nat.le_of_eq g13.symm)) all0))
    have F36 : Str Z h35 L4 ([45, 118] : List Int32) := S5.keep K1_9_37
    refine wCallS (pc' := 270) w35 (c3 G l w35.old b13 kc13 n_9 cs35 hm35 hb35 7 (by decide) L4 ([45, 118] : List Int32) (by unfold Lat; decide) (p2 &&& (255 : Int32)) (m255 _) x_6 ((p1 &&& (2147483647 : Int32)) % (10 : Int32)) (p3 &&& (255 : Int32)) (m255 _) (Nat.le_trans w4.old.1 (Nat.le_of_eq g13.symm)) A35 F36) (fun q => q) (fun _ q => nomatch q) (tw23 G) (tw24 G) (tw25 G) (tw26 G) (by decide) [(.ref b13), (.int (7 : Int32)), (.ref L4), (.int (p2 &&& (255 : Int32))), (.int x_6), (.int ((p1 &&& (2147483647 : Int32)) % (10 : Int32))), (.int (p3 &&& (255 : Int32)))] [] (ps := [(.array .char), .int, (.object "java/lang/String"), .char, .boolean, .int, .char]) (rt := none) pd2 rfl rfl rfl rfl sw0 (by decide) (by decide) (by decide) (by decide) at_267 rfl ?_
    intro v38 T38 h38 w38 q38
    obtain ⟨rfl, cs38, K38, A38, hl38, hb38⟩ := q38
    have hm38 : cs38.length = n_9.toNatClampNeg := hl38.trans hm35
    refine gAload (pc' := 272) w38 at_270 rfl rfl rfl ?_
    refine gBipush (pc' := 274) w38 at_272 rfl (z := (8 : Int32)) rfl ?_
    refine gAload (pc' := 276) w38 at_274 rfl rfl rfl ?_
    refine gIload (pc' := 278) w38 at_276 rfl rfl ?_
    refine gIload (pc' := 280) w38 at_278 rfl rfl ?_
    refine gIload (pc' := 282) w38 at_280 rfl rfl ?_
    refine gIload (pc' := 284) w38 at_282 rfl rfl ?_
    have K1_10_40 : Keep h4 h38 [] := ((K1_9_37).trans K38 (allS (Or.inr (Nat.le_of_eq g13.symm)) all0))
    have F39 : Str Z h38 L4 ([45, 118] : List Int32) := S5.keep K1_10_40
    refine wCallS (pc' := 287) w38 (c3 G l w38.old b13 kc13 n_9 cs38 hm38 hb38 8 (by decide) L4 ([45, 118] : List Int32) (by unfold Lat; decide) (p2 &&& (255 : Int32)) (m255 _) x_6 ((p1 &&& (2147483647 : Int32)) % (10 : Int32)) (p3 &&& (255 : Int32)) (m255 _) (Nat.le_trans w4.old.1 (Nat.le_of_eq g13.symm)) A38 F39) (fun q => q) (fun _ q => nomatch q) (tw23 G) (tw24 G) (tw25 G) (tw26 G) (by decide) [(.ref b13), (.int (8 : Int32)), (.ref L4), (.int (p2 &&& (255 : Int32))), (.int x_6), (.int ((p1 &&& (2147483647 : Int32)) % (10 : Int32))), (.int (p3 &&& (255 : Int32)))] [] (ps := [(.array .char), .int, (.object "java/lang/String"), .char, .boolean, .int, .char]) (rt := none) pd2 rfl rfl rfl rfl sw0 (by decide) (by decide) (by decide) (by decide) at_284 rfl ?_
    intro v41 T41 h41 w41 q41
    obtain ⟨rfl, cs41, K41, A41, hl41, hb41⟩ := q41
    have hm41 : cs41.length = n_9.toNatClampNeg := hl41.trans hm38
    refine gAload (pc' := 289) w41 at_287 rfl rfl rfl ?_
    refine gBipush (pc' := 291) w41 at_289 rfl (z := (9 : Int32)) rfl ?_
    refine gAload (pc' := 293) w41 at_291 rfl rfl rfl ?_
    refine gIload (pc' := 295) w41 at_293 rfl rfl ?_
    refine gIload (pc' := 297) w41 at_295 rfl rfl ?_
    refine gIload (pc' := 299) w41 at_297 rfl rfl ?_
    refine gIload (pc' := 301) w41 at_299 rfl rfl ?_
    have K1_11_43 : Keep h4 h41 [] := ((K1_10_40).trans K41 (allS (Or.inr (Nat.le_of_eq g13.symm)) all0))
    have F42 : Str Z h41 L4 ([45, 118] : List Int32) := S5.keep K1_11_43
    refine wCallS (pc' := 304) w41 (c3 G l w41.old b13 kc13 n_9 cs41 hm41 hb41 9 (by decide) L4 ([45, 118] : List Int32) (by unfold Lat; decide) (p2 &&& (255 : Int32)) (m255 _) x_6 ((p1 &&& (2147483647 : Int32)) % (10 : Int32)) (p3 &&& (255 : Int32)) (m255 _) (Nat.le_trans w4.old.1 (Nat.le_of_eq g13.symm)) A41 F42) (fun q => q) (fun _ q => nomatch q) (tw23 G) (tw24 G) (tw25 G) (tw26 G) (by decide) [(.ref b13), (.int (9 : Int32)), (.ref L4), (.int (p2 &&& (255 : Int32))), (.int x_6), (.int ((p1 &&& (2147483647 : Int32)) % (10 : Int32))), (.int (p3 &&& (255 : Int32)))] [] (ps := [(.array .char), .int, (.object "java/lang/String"), .char, .boolean, .int, .char]) (rt := none) pd2 rfl rfl rfl rfl sw0 (by decide) (by decide) (by decide) (by decide) at_301 rfl ?_
    intro v44 T44 h44 w44 q44
    obtain ⟨rfl, cs44, K44, A44, hl44, hb44⟩ := q44
    have hm44 : cs44.length = n_9.toNatClampNeg := hl44.trans hm41
    refine wNewS (pc' := 307) w44 (tw52 G) (tw2 G) (tw1 G) at_304 rfl (by decide) (by decide) ?_
    intro T45 h45 b45 g45 w45 K45 E45 D45
    refine gDup (pc' := 308) w45 at_307 rfl rfl ?_
    refine gAload (pc' := 310) w45 at_308 rfl rfl rfl ?_
    suffices hJ46 : ∀ (T46 : State) (h46 : Heap), Wk false EL1 Z a0 "com/example/countersign/countersign/CommandLogIsSwitchPinLaw" code maxLocals ret "law" p l e room_1 s m #[(.int p0), (.int p1), (.int p2), (.int p3)] below meth c T46 h46 [b45] 8 36 → Keep h45 h46 [b45] → Str Z h46 b45 cs44 → Go p e below (Pst false EL1 Z s room_1 (fun v h sf => v = some (.int (1 : Int32)))) (T46.setTop (mkF m 313 #[.val (.int p0), .val (.int p1), .val (.int p2), .val (.int p3), .val (.int x_1), .val (.ref L4), .val (.int x_6), .val (.int ((XT.ushr p0 (2 : Int32)) &&& (3 : Int32))), .val (.int (2 : Int32)), .val (.int n_9), .val (.int ((p1 &&& (2147483647 : Int32)) % (10 : Int32))), .val (.int (p2 &&& (255 : Int32))), .val (.int (p3 &&& (255 : Int32))), .val (.ref b13), .unset, .unset, .unset] [(.ref b45)])) by
      by_cases hs47 : cs44.length = 0
      · skip
        have cn47 : cs44 = [] := List.eq_nil_of_length_eq_zero hs47
        have zn47 : n_9 = (0 : Int32) := toN f9 (hs47.symm.trans hm44)
        have K12_13_49 : Keep h44 h45 [] := K45
        have F48 : Arv Z h45 b13 kc13 .char n_9 (cs44.map Value.int) (.int 0) := A44.keep K12_13_49 nin0
        have Az47 : Arv Z h45 b13 kc13 .char (0 : Int32) [] (.int 0) := by have q := F48; rw [cn47, zn47] at q; exact q
        have F50 : Fld Z h45 b45 "java/lang/String" "value" "[B" .null := D45 (Or.inr (tw4 G)) (ty := (.array .byte)) (by decide)
        have F51 : Fld Z h45 b45 "java/lang/String" "coder" "B" (.int (0 : Int32)) := D45 (Or.inr (tw5 G)) (ty := .byte) (by decide)
        refine wCallX (pc' := 313) w45 (cE1 G l w45.old b45 b13 kc13 (Nat.le_trans w44.old.1 (Nat.le_of_eq g45.symm)) E45 F50 F51 Az47) (fun q => q) (fun x q => (List.mem_singleton.mp q) ▸ (List.mem_cons_self ..)) rfl rfl (tw53 G) (tw54 G) (tw1 G) (tw55 G) (by decide) [(.ref b13)] [(.ref b45)] (ps := [(.array .char)]) (rt := none) pd3 rfl rfl rfl rfl (swS cat1 sw0) (by decide) (by decide) (by decide) (by decide) at_310 rfl ?_
        intro v52 T52 h52 w52 q52
        obtain ⟨rfl, K52, S52⟩ := q52
        exact hJ46 _ _ (w52.more (by decide) (by decide)) ((Keep.refl _ [b45]).trans K52 (allS (Or.inl (List.mem_cons_self ..)) all0)) (cn47.symm ▸ S52)
      · skip
        have K12_13_54 : Keep h44 h45 [] := K45
        have F53 : Arv Z h45 b13 kc13 .char n_9 (cs44.map Value.int) (.int 0) := A44.keep K12_13_54 nin0
        have F55 : Fld Z h45 b45 "java/lang/String" "value" "[B" .null := D45 (Or.inr (tw4 G)) (ty := (.array .byte)) (by decide)
        have F56 : Fld Z h45 b45 "java/lang/String" "coder" "B" (.int (0 : Int32)) := D45 (Or.inr (tw5 G)) (ty := .byte) (by decide)
        have l10_47 : cs44.length ≤ 10 := (hm44).symm ▸ cap10 f9
        refine wStrNew (pc' := 313) (w45.more (cells' := 4) (slots' := 26) (by decide) (by decide)) (strw G) (tw2 G) (tw53 G) (tw54 G) (cs := cs44) cs44.length (List.mem_cons_self ..) (Nat.le_trans w44.old.1 (Nat.le_of_eq g45.symm)) E45 F55 F56 F53 (cst G).1 (cst G).2 rfl (toN f9 hm44) (Nat.pos_of_ne_zero hs47) (by omega) hb44 [(.ref b45)] rfl (swS cat1 sw0) (by decide) (by decide) (by decide) (le_slots (by decide) l10_47) at_310 rfl ?_
        intro T57 h57 w57 K57 S57
        have v57 := w57.more (cells' := 5) (slots' := 36) (by decide) (Nat.add_le_add_left l10_47 _)
        exact hJ46 _ _ (v57.more (by decide) (by decide)) ((Keep.refl _ [b45]).trans K57 (allS (Or.inl (List.mem_cons_self ..)) all0)) S57
    intro T46 h46 w46 K46 f46
    refine gAstore (pc' := 315) w46 at_313 rfl rfl (Ls' := #[.val (.int p0), .val (.int p1), .val (.int p2), .val (.int p3), .val (.int x_1), .val (.ref L4), .val (.int x_6), .val (.int ((XT.ushr p0 (2 : Int32)) &&& (3 : Int32))), .val (.int (2 : Int32)), .val (.int n_9), .val (.int ((p1 &&& (2147483647 : Int32)) % (10 : Int32))), .val (.int (p2 &&& (255 : Int32))), .val (.int (p3 &&& (255 : Int32))), .val (.ref b13), .val (.ref b45), .unset, .unset]) rfl ?_
    refine gAload (pc' := 317) w46 at_315 rfl rfl rfl ?_
    refine wStrLen (pc' := 320) w46 (strlenw G) (tw2 G) (tw8 G) (tw9 G) (tw11 G) (tw10 G) f46 (cst G).1 (cst G).2 [] rfl sw0 (by decide) (by decide) (by decide) (by decide) at_317 rfl ?_
    intro T58 z58 w58 e58
    refine gBipush (pc' := 322) w58 at_320 rfl (z := (9 : Int32)) rfl ?_
    suffices hJ59 : ∀ (T59 : State) (h59 : Heap) (x_59 : Int32), Wk false EL1 Z a0 "com/example/countersign/countersign/CommandLogIsSwitchPinLaw" code maxLocals ret "law" p l e room_1 s m #[(.int p0), (.int p1), (.int p2), (.int p3)] below meth c T59 h59 [b45] 8 36 → Keep h46 h59 [] → ((x_59 = 1 ∧ cs44 = ([45, 45, 118, 101, 114, 98, 111, 115, 101] : List Int32)) ∨ (x_59 = 0 ∧ ¬ cs44 = ([45, 45, 118, 101, 114, 98, 111, 115, 101] : List Int32))) → Go p e below (Pst false EL1 Z s room_1 (fun v h sf => v = some (.int (1 : Int32)))) (T59.setTop (mkF m 432 #[.val (.int p0), .val (.int p1), .val (.int p2), .val (.int p3), .val (.int x_1), .val (.ref L4), .val (.int x_6), .val (.int ((XT.ushr p0 (2 : Int32)) &&& (3 : Int32))), .val (.int (2 : Int32)), .val (.int n_9), .val (.int ((p1 &&& (2147483647 : Int32)) % (10 : Int32))), .val (.int (p2 &&& (255 : Int32))), .val (.int (p3 &&& (255 : Int32))), .val (.ref b13), .val (.ref b45), .unset, .unset] [(.int x_59)])) by
      by_cases hc322_60 : z58 = (9 : Int32)
      · skip
        refine gIcN (pc' := 325) w58 at_322 (teq hc322_60).2 rfl ?_
        have hn61 : cs44.length = 9 := eq32 f46.len (k := 9) (by decide) (e58.symm.trans hc322_60)
        refine gAload (pc' := 327) w58 at_325 rfl rfl rfl ?_
        refine gIconst (pc' := 328) w58 at_327 rfl (z := (0 : Int32)) rfl ?_
        refine wStrChr (pc' := 331) w58 (strchrw G) (tw2 G) (tw30 G) (tw31 G) (tw33 G) (tw32 G) f46 (i := 0) hb44.hi (fmt G).1 (fmt G).2 (by rw [hn61]; decide) rfl (cst G).1 (cst G).2 [] rfl sw0 (by decide) (by decide) (by decide) (by decide) at_328 rfl ?_
        intro T62 z62 w62 e62
        refine gBipush (pc' := 333) w62 at_331 rfl (z := (45 : Int32)) rfl ?_
        by_cases hc333_63 : z62 = (45 : Int32)
        · skip
          refine gIcN (pc' := 336) w62 at_333 (teq hc333_63).2 rfl ?_
          refine gAload (pc' := 338) w62 at_336 rfl rfl rfl ?_
          refine gIconst (pc' := 339) w62 at_338 rfl (z := (1 : Int32)) rfl ?_
          refine wStrChr (pc' := 342) w62 (strchrw G) (tw2 G) (tw30 G) (tw31 G) (tw33 G) (tw32 G) f46 (i := 1) hb44.hi (fmt G).1 (fmt G).2 (by rw [hn61]; decide) rfl (cst G).1 (cst G).2 [] rfl sw0 (by decide) (by decide) (by decide) (by decide) at_339 rfl ?_
          intro T64 z64 w64 e64
          refine gBipush (pc' := 344) w64 at_342 rfl (z := (45 : Int32)) rfl ?_
          by_cases hc344_65 : z64 = (45 : Int32)
          · skip
            refine gIcN (pc' := 347) w64 at_344 (teq hc344_65).2 rfl ?_
            refine gAload (pc' := 349) w64 at_347 rfl rfl rfl ?_
            refine gIconst (pc' := 350) w64 at_349 rfl (z := (2 : Int32)) rfl ?_
            refine wStrChr (pc' := 353) w64 (strchrw G) (tw2 G) (tw30 G) (tw31 G) (tw33 G) (tw32 G) f46 (i := 2) hb44.hi (fmt G).1 (fmt G).2 (by rw [hn61]; decide) rfl (cst G).1 (cst G).2 [] rfl sw0 (by decide) (by decide) (by decide) (by decide) at_350 rfl ?_
            intro T66 z66 w66 e66
            refine gBipush (pc' := 355) w66 at_353 rfl (z := (118 : Int32)) rfl ?_
            by_cases hc355_67 : z66 = (118 : Int32)
            · skip
              refine gIcN (pc' := 358) w66 at_355 (teq hc355_67).2 rfl ?_
              refine gAload (pc' := 360) w66 at_358 rfl rfl rfl ?_
              refine gIconst (pc' := 361) w66 at_360 rfl (z := (3 : Int32)) rfl ?_
              refine wStrChr (pc' := 364) w66 (strchrw G) (tw2 G) (tw30 G) (tw31 G) (tw33 G) (tw32 G) f46 (i := 3) hb44.hi (fmt G).1 (fmt G).2 (by rw [hn61]; decide) rfl (cst G).1 (cst G).2 [] rfl sw0 (by decide) (by decide) (by decide) (by decide) at_361 rfl ?_
              intro T68 z68 w68 e68
              refine gBipush (pc' := 366) w68 at_364 rfl (z := (101 : Int32)) rfl ?_
              by_cases hc366_69 : z68 = (101 : Int32)
              · skip
                refine gIcN (pc' := 369) w68 at_366 (teq hc366_69).2 rfl ?_
                refine gAload (pc' := 371) w68 at_369 rfl rfl rfl ?_
                refine gIconst (pc' := 372) w68 at_371 rfl (z := (4 : Int32)) rfl ?_
                refine wStrChr (pc' := 375) w68 (strchrw G) (tw2 G) (tw30 G) (tw31 G) (tw33 G) (tw32 G) f46 (i := 4) hb44.hi (fmt G).1 (fmt G).2 (by rw [hn61]; decide) rfl (cst G).1 (cst G).2 [] rfl sw0 (by decide) (by decide) (by decide) (by decide) at_372 rfl ?_
                intro T70 z70 w70 e70
                refine gBipush (pc' := 377) w70 at_375 rfl (z := (114 : Int32)) rfl ?_
                by_cases hc377_71 : z70 = (114 : Int32)
                · skip
                  refine gIcN (pc' := 380) w70 at_377 (teq hc377_71).2 rfl ?_
                  refine gAload (pc' := 382) w70 at_380 rfl rfl rfl ?_
                  refine gIconst (pc' := 383) w70 at_382 rfl (z := (5 : Int32)) rfl ?_
                  refine wStrChr (pc' := 386) w70 (strchrw G) (tw2 G) (tw30 G) (tw31 G) (tw33 G) (tw32 G) f46 (i := 5) hb44.hi (fmt G).1 (fmt G).2 (by rw [hn61]; decide) rfl (cst G).1 (cst G).2 [] rfl sw0 (by decide) (by decide) (by decide) (by decide) at_383 rfl ?_
                  intro T72 z72 w72 e72
                  refine gBipush (pc' := 388) w72 at_386 rfl (z := (98 : Int32)) rfl ?_
                  by_cases hc388_73 : z72 = (98 : Int32)
                  · skip
                    refine gIcN (pc' := 391) w72 at_388 (teq hc388_73).2 rfl ?_
                    refine gAload (pc' := 393) w72 at_391 rfl rfl rfl ?_
                    refine gBipush (pc' := 395) w72 at_393 rfl (z := (6 : Int32)) rfl ?_
                    refine wStrChr (pc' := 398) w72 (strchrw G) (tw2 G) (tw30 G) (tw31 G) (tw33 G) (tw32 G) f46 (i := 6) hb44.hi (fmt G).1 (fmt G).2 (by rw [hn61]; decide) rfl (cst G).1 (cst G).2 [] rfl sw0 (by decide) (by decide) (by decide) (by decide) at_395 rfl ?_
                    intro T74 z74 w74 e74
                    refine gBipush (pc' := 400) w74 at_398 rfl (z := (111 : Int32)) rfl ?_
                    by_cases hc400_75 : z74 = (111 : Int32)
                    · skip
                      refine gIcN (pc' := 403) w74 at_400 (teq hc400_75).2 rfl ?_
                      refine gAload (pc' := 405) w74 at_403 rfl rfl rfl ?_
                      refine gBipush (pc' := 407) w74 at_405 rfl (z := (7 : Int32)) rfl ?_
                      refine wStrChr (pc' := 410) w74 (strchrw G) (tw2 G) (tw30 G) (tw31 G) (tw33 G) (tw32 G) f46 (i := 7) hb44.hi (fmt G).1 (fmt G).2 (by rw [hn61]; decide) rfl (cst G).1 (cst G).2 [] rfl sw0 (by decide) (by decide) (by decide) (by decide) at_407 rfl ?_
                      intro T76 z76 w76 e76
                      refine gBipush (pc' := 412) w76 at_410 rfl (z := (115 : Int32)) rfl ?_
                      by_cases hc412_77 : z76 = (115 : Int32)
                      · skip
                        refine gIcN (pc' := 415) w76 at_412 (teq hc412_77).2 rfl ?_
                        refine gAload (pc' := 417) w76 at_415 rfl rfl rfl ?_
                        refine gBipush (pc' := 419) w76 at_417 rfl (z := (8 : Int32)) rfl ?_
                        refine wStrChr (pc' := 422) w76 (strchrw G) (tw2 G) (tw30 G) (tw31 G) (tw33 G) (tw32 G) f46 (i := 8) hb44.hi (fmt G).1 (fmt G).2 (by rw [hn61]; decide) rfl (cst G).1 (cst G).2 [] rfl sw0 (by decide) (by decide) (by decide) (by decide) at_419 rfl ?_
                        intro T78 z78 w78 e78
                        refine gBipush (pc' := 424) w78 at_422 rfl (z := (101 : Int32)) rfl ?_
                        by_cases hc424_79 : z78 = (101 : Int32)
                        · skip
                          refine gIcN (pc' := 427) w78 at_424 (teq hc424_79).2 rfl ?_
                          refine gIconst (pc' := 428) w78 at_427 rfl (z := (1 : Int32)) rfl ?_
                          refine gGoto (pc' := 432) w78 at_428 (by decide) (by decide) ?_
                          exact hJ59 _ _ (1 : Int32) w78 (Keep.refl _ []) (Or.inl ⟨rfl, is9 hn61 (e62.symm.trans hc333_63) (e64.symm.trans hc344_65) (e66.symm.trans hc355_67) (e68.symm.trans hc366_69) (e70.symm.trans hc377_71) (e72.symm.trans hc388_73) (e74.symm.trans hc400_75) (e76.symm.trans hc412_77) (e78.symm.trans hc424_79)⟩)
                        · skip
                          refine gIcY (pc' := 431) w78 at_424 (feq hc424_79).2 (by decide) (by decide) ?_
                          refine gIconst (pc' := 432) w78 at_431 rfl (z := (0 : Int32)) rfl ?_
                          exact hJ59 _ _ (0 : Int32) w78 (Keep.refl _ []) (Or.inr ⟨rfl, fun q => hc424_79 (by rw [e78, q]; rfl)⟩)
                      · skip
                        refine gIcY (pc' := 431) w76 at_412 (feq hc412_77).2 (by decide) (by decide) ?_
                        refine gIconst (pc' := 432) w76 at_431 rfl (z := (0 : Int32)) rfl ?_
                        exact hJ59 _ _ (0 : Int32) w76 (Keep.refl _ []) (Or.inr ⟨rfl, fun q => hc412_77 (by rw [e76, q]; rfl)⟩)
                    · skip
                      refine gIcY (pc' := 431) w74 at_400 (feq hc400_75).2 (by decide) (by decide) ?_
                      refine gIconst (pc' := 432) w74 at_431 rfl (z := (0 : Int32)) rfl ?_
                      exact hJ59 _ _ (0 : Int32) w74 (Keep.refl _ []) (Or.inr ⟨rfl, fun q => hc400_75 (by rw [e74, q]; rfl)⟩)
                  · skip
                    refine gIcY (pc' := 431) w72 at_388 (feq hc388_73).2 (by decide) (by decide) ?_
                    refine gIconst (pc' := 432) w72 at_431 rfl (z := (0 : Int32)) rfl ?_
                    exact hJ59 _ _ (0 : Int32) w72 (Keep.refl _ []) (Or.inr ⟨rfl, fun q => hc388_73 (by rw [e72, q]; rfl)⟩)
                · skip
                  refine gIcY (pc' := 431) w70 at_377 (feq hc377_71).2 (by decide) (by decide) ?_
                  refine gIconst (pc' := 432) w70 at_431 rfl (z := (0 : Int32)) rfl ?_
                  exact hJ59 _ _ (0 : Int32) w70 (Keep.refl _ []) (Or.inr ⟨rfl, fun q => hc377_71 (by rw [e70, q]; rfl)⟩)
              · skip
                refine gIcY (pc' := 431) w68 at_366 (feq hc366_69).2 (by decide) (by decide) ?_
                refine gIconst (pc' := 432) w68 at_431 rfl (z := (0 : Int32)) rfl ?_
                exact hJ59 _ _ (0 : Int32) w68 (Keep.refl _ []) (Or.inr ⟨rfl, fun q => hc366_69 (by rw [e68, q]; rfl)⟩)
            · skip
              refine gIcY (pc' := 431) w66 at_355 (feq hc355_67).2 (by decide) (by decide) ?_
              refine gIconst (pc' := 432) w66 at_431 rfl (z := (0 : Int32)) rfl ?_
              exact hJ59 _ _ (0 : Int32) w66 (Keep.refl _ []) (Or.inr ⟨rfl, fun q => hc355_67 (by rw [e66, q]; rfl)⟩)
          · skip
            refine gIcY (pc' := 431) w64 at_344 (feq hc344_65).2 (by decide) (by decide) ?_
            refine gIconst (pc' := 432) w64 at_431 rfl (z := (0 : Int32)) rfl ?_
            exact hJ59 _ _ (0 : Int32) w64 (Keep.refl _ []) (Or.inr ⟨rfl, fun q => hc344_65 (by rw [e64, q]; rfl)⟩)
        · skip
          refine gIcY (pc' := 431) w62 at_333 (feq hc333_63).2 (by decide) (by decide) ?_
          refine gIconst (pc' := 432) w62 at_431 rfl (z := (0 : Int32)) rfl ?_
          exact hJ59 _ _ (0 : Int32) w62 (Keep.refl _ []) (Or.inr ⟨rfl, fun q => hc333_63 (by rw [e62, q]; rfl)⟩)
      · skip
        refine gIcY (pc' := 431) w58 at_322 (feq hc322_60).2 (by decide) (by decide) ?_
        refine gIconst (pc' := 432) w58 at_431 rfl (z := (0 : Int32)) rfl ?_
        exact hJ59 _ _ (0 : Int32) w58 (Keep.refl _ []) (Or.inr ⟨rfl, fun q => hc322_60 (by rw [e58, q]; rfl)⟩)
    intro T59 h59 x_59 w59 K59 f59
    refine gIstore (pc' := 434) w59 at_432 rfl (Ls' := #[.val (.int p0), .val (.int p1), .val (.int p2), .val (.int p3), .val (.int x_1), .val (.ref L4), .val (.int x_6), .val (.int ((XT.ushr p0 (2 : Int32)) &&& (3 : Int32))), .val (.int (2 : Int32)), .val (.int n_9), .val (.int ((p1 &&& (2147483647 : Int32)) % (10 : Int32))), .val (.int (p2 &&& (255 : Int32))), .val (.int (p3 &&& (255 : Int32))), .val (.ref b13), .val (.ref b45), .val (.int x_59), .unset]) rfl ?_
    refine gAload (pc' := 436) w59 at_434 rfl rfl rfl ?_
    have K14_15_81 : Keep h46 h59 [] := K59
    have F80 : Str Z h59 b45 cs44 := f46.keep K14_15_81
    refine wStrLen (pc' := 439) w59 (strlenw G) (tw2 G) (tw8 G) (tw9 G) (tw11 G) (tw10 G) F80 (cst G).1 (cst G).2 [] rfl sw0 (by decide) (by decide) (by decide) (by decide) at_436 rfl ?_
    intro T82 z82 w82 e82
    refine gIconst (pc' := 440) w82 at_439 rfl (z := (2 : Int32)) rfl ?_
    suffices hJ83 : ∀ (T83 : State) (h83 : Heap) (x_83 : Int32), Wk false EL1 Z a0 "com/example/countersign/countersign/CommandLogIsSwitchPinLaw" code maxLocals ret "law" p l e room_1 s m #[(.int p0), (.int p1), (.int p2), (.int p3)] below meth c T83 h83 [b45] 8 36 → Keep h59 h83 [] → ((x_83 = 1 ∧ cs44 = ([45, 118] : List Int32)) ∨ (x_83 = 0 ∧ ¬ cs44 = ([45, 118] : List Int32))) → Go p e below (Pst false EL1 Z s room_1 (fun v h sf => v = some (.int (1 : Int32)))) (T83.setTop (mkF m 470 #[.val (.int p0), .val (.int p1), .val (.int p2), .val (.int p3), .val (.int x_1), .val (.ref L4), .val (.int x_6), .val (.int ((XT.ushr p0 (2 : Int32)) &&& (3 : Int32))), .val (.int (2 : Int32)), .val (.int n_9), .val (.int ((p1 &&& (2147483647 : Int32)) % (10 : Int32))), .val (.int (p2 &&& (255 : Int32))), .val (.int (p3 &&& (255 : Int32))), .val (.ref b13), .val (.ref b45), .val (.int x_59), .unset] [(.int x_83)])) by
      by_cases hc440_84 : z82 = (2 : Int32)
      · skip
        refine gIcN (pc' := 443) w82 at_440 (teq hc440_84).2 rfl ?_
        have hn85 : cs44.length = 2 := eq32 F80.len (k := 2) (by decide) (e82.symm.trans hc440_84)
        refine gAload (pc' := 445) w82 at_443 rfl rfl rfl ?_
        refine gIconst (pc' := 446) w82 at_445 rfl (z := (0 : Int32)) rfl ?_
        refine wStrChr (pc' := 449) w82 (strchrw G) (tw2 G) (tw30 G) (tw31 G) (tw33 G) (tw32 G) F80 (i := 0) hb44.hi (fmt G).1 (fmt G).2 (by rw [hn85]; decide) rfl (cst G).1 (cst G).2 [] rfl sw0 (by decide) (by decide) (by decide) (by decide) at_446 rfl ?_
        intro T86 z86 w86 e86
        refine gBipush (pc' := 451) w86 at_449 rfl (z := (45 : Int32)) rfl ?_
        by_cases hc451_87 : z86 = (45 : Int32)
        · skip
          refine gIcN (pc' := 454) w86 at_451 (teq hc451_87).2 rfl ?_
          refine gAload (pc' := 456) w86 at_454 rfl rfl rfl ?_
          refine gIconst (pc' := 457) w86 at_456 rfl (z := (1 : Int32)) rfl ?_
          refine wStrChr (pc' := 460) w86 (strchrw G) (tw2 G) (tw30 G) (tw31 G) (tw33 G) (tw32 G) F80 (i := 1) hb44.hi (fmt G).1 (fmt G).2 (by rw [hn85]; decide) rfl (cst G).1 (cst G).2 [] rfl sw0 (by decide) (by decide) (by decide) (by decide) at_457 rfl ?_
          intro T88 z88 w88 e88
          refine gBipush (pc' := 462) w88 at_460 rfl (z := (118 : Int32)) rfl ?_
          by_cases hc462_89 : z88 = (118 : Int32)
          · skip
            refine gIcN (pc' := 465) w88 at_462 (teq hc462_89).2 rfl ?_
            refine gIconst (pc' := 466) w88 at_465 rfl (z := (1 : Int32)) rfl ?_
            refine gGoto (pc' := 470) w88 at_466 (by decide) (by decide) ?_
            exact hJ83 _ _ (1 : Int32) w88 (Keep.refl _ []) (Or.inl ⟨rfl, is2 hn85 (e86.symm.trans hc451_87) (e88.symm.trans hc462_89)⟩)
          · skip
            refine gIcY (pc' := 469) w88 at_462 (feq hc462_89).2 (by decide) (by decide) ?_
            refine gIconst (pc' := 470) w88 at_469 rfl (z := (0 : Int32)) rfl ?_
            exact hJ83 _ _ (0 : Int32) w88 (Keep.refl _ []) (Or.inr ⟨rfl, fun q => hc462_89 (by rw [e88, q]; rfl)⟩)
        · skip
          refine gIcY (pc' := 469) w86 at_451 (feq hc451_87).2 (by decide) (by decide) ?_
          refine gIconst (pc' := 470) w86 at_469 rfl (z := (0 : Int32)) rfl ?_
          exact hJ83 _ _ (0 : Int32) w86 (Keep.refl _ []) (Or.inr ⟨rfl, fun q => hc451_87 (by rw [e86, q]; rfl)⟩)
      · skip
        refine gIcY (pc' := 469) w82 at_440 (feq hc440_84).2 (by decide) (by decide) ?_
        refine gIconst (pc' := 470) w82 at_469 rfl (z := (0 : Int32)) rfl ?_
        exact hJ83 _ _ (0 : Int32) w82 (Keep.refl _ []) (Or.inr ⟨rfl, fun q => hc440_84 (by rw [e82, q]; rfl)⟩)
    intro T83 h83 x_83 w83 K83 f83
    refine gIstore (pc' := 472) w83 at_470 rfl (Ls' := #[.val (.int p0), .val (.int p1), .val (.int p2), .val (.int p3), .val (.int x_1), .val (.ref L4), .val (.int x_6), .val (.int ((XT.ushr p0 (2 : Int32)) &&& (3 : Int32))), .val (.int (2 : Int32)), .val (.int n_9), .val (.int ((p1 &&& (2147483647 : Int32)) % (10 : Int32))), .val (.int (p2 &&& (255 : Int32))), .val (.int (p3 &&& (255 : Int32))), .val (.ref b13), .val (.ref b45), .val (.int x_59), .val (.int x_83)]) rfl ?_
    refine gAload (pc' := 474) w83 at_472 rfl rfl rfl ?_
    have K15_16_91 : Keep h59 h83 [] := K83
    have F90 : Str Z h83 b45 cs44 := F80.keep K15_16_91
    refine wCallS (pc' := 477) w83 (c16 G l w83.old b45 cs44 F90) (fun q => q) (fun _ q => nomatch q) (tw73 G) (tw74 G) (tw75 G) (tw76 G) (by decide) [(.ref b45)] [] (ps := [(.object "java/lang/String")]) (rt := some .boolean) pd4 rfl rfl rfl rfl sw0 (by decide) (by decide) (by decide) (by decide) at_474 rfl ?_
    intro v92 T92 h92 w92 q92
    obtain ⟨z92, rfl, K92, hz92⟩ := q92
    refine gIload (pc' := 479) w92 at_477 rfl rfl ?_
    by_cases hc479_93 : x_59 = (0 : Int32)
    · skip
      refine gIfN (pc' := 482) w92 at_479 (teq hc479_93).2 rfl ?_
      refine gIload (pc' := 484) w92 at_482 rfl rfl ?_
      by_cases hc484_94 : x_83 = (0 : Int32)
      · skip
        refine gIfY (pc' := 491) w92 at_484 (teq hc484_94).1 (by decide) (by decide) ?_
        refine gIconst (pc' := 492) w92 at_491 rfl (z := (0 : Int32)) rfl ?_
        refine gIcN (pc' := 495) w92 at_492 (teq (is0 hz92 (fun q => q.elim (eqF f59 hc479_93) (eqF f83 hc484_94)))).2 rfl ?_
        refine gIconst (pc' := 496) w92 at_495 rfl (z := (1 : Int32)) rfl ?_
        refine gGoto (pc' := 500) w92 at_496 (by decide) (by decide) ?_
        refine wRetZ w92 at_500 (Or.inr rfl) (by decide) (by decide) ?_
        exact rfl
      · skip
        refine gIfN (pc' := 487) w92 at_484 (feq hc484_94).1 rfl ?_
        refine gIconst (pc' := 488) w92 at_487 rfl (z := (1 : Int32)) rfl ?_
        refine gGoto (pc' := 492) w92 at_488 (by decide) (by decide) ?_
        refine gIcN (pc' := 495) w92 at_492 (teq (is1 hz92 (Or.inr (eqT f83 hc484_94)))).2 rfl ?_
        refine gIconst (pc' := 496) w92 at_495 rfl (z := (1 : Int32)) rfl ?_
        refine gGoto (pc' := 500) w92 at_496 (by decide) (by decide) ?_
        refine wRetZ w92 at_500 (Or.inr rfl) (by decide) (by decide) ?_
        exact rfl
    · skip
      refine gIfY (pc' := 487) w92 at_479 (feq hc479_93).2 (by decide) (by decide) ?_
      refine gIconst (pc' := 488) w92 at_487 rfl (z := (1 : Int32)) rfl ?_
      refine gGoto (pc' := 492) w92 at_488 (by decide) (by decide) ?_
      refine gIcN (pc' := 495) w92 at_492 (teq (is1 hz92 (Or.inl (eqT f59 hc479_93)))).2 rfl ?_
      refine gIconst (pc' := 496) w92 at_495 rfl (z := (1 : Int32)) rfl ?_
      refine gGoto (pc' := 500) w92 at_496 (by decide) (by decide) ?_
      refine wRetZ w92 at_500 (Or.inr rfl) (by decide) (by decide) ?_
      exact rfl
  · skip
    refine gIfN (pc' := 18) w0 at_15 (feq hc15_3).1 rfl ?_
    refine wLdcC (pc' := 20) w0 (tw0 G) (strat G) (List.mem_cons_of_mem _ (List.mem_cons_of_mem _ (List.mem_cons_of_mem _ (List.mem_cons_self ..)))) (vs := [(.int (45 : Int32)), (.int (45 : Int32)), (.int (118 : Int32)), (.int (101 : Int32)), (.int (114 : Int32)), (.int (98 : Int32)), (.int (111 : Int32)), (.int (115 : Int32)), (.int (101 : Int32))]) (z := (9 : Int32)) ⟨by decide, by decide⟩ (by decide) (by decide) (n := 36) (by decide) (by decide) at_18 rfl (by decide) (by decide) ?_
    intro T95 h95 L95 B95 kb95 w95 K95 E95 Cd95 Vl95 Ar95 ne95
    have S96 : Str Z h95 L95 [(45 : Int32), (45 : Int32), (118 : Int32), (101 : Int32), (114 : Int32), (98 : Int32), (111 : Int32), (115 : Int32), (101 : Int32)] := ⟨B95, kb95, 0, 9, _, E95, Vl95, Cd95, Ar95, Or.inl ⟨rfl, rfl, by first | rfl | decide, by decide⟩, by decide, by decide⟩
    refine gGoto (pc' := 25) w95 at_20 (by decide) (by decide) ?_
    refine gAstore (pc' := 27) w95 at_25 rfl rfl (Ls' := #[.val (.int p0), .val (.int p1), .val (.int p2), .val (.int p3), .val (.int x_1), .val (.ref L95), .unset, .unset, .unset, .unset, .unset, .unset, .unset, .unset, .unset, .unset, .unset]) rfl ?_
    refine gIloadN (pc' := 28) w95 at_27 rfl rfl ?_
    refine gIconst (pc' := 29) w95 at_28 rfl (z := (1 : Int32)) rfl ?_
    refine gIushr (pc' := 30) w95 at_29 rfl ?_
    refine gIconst (pc' := 31) w95 at_30 rfl (z := (1 : Int32)) rfl ?_
    refine gIand (pc' := 32) w95 at_31 rfl ?_
    suffices hJ97 : ∀ (x_97 : Int32), ((((XT.ushr p0 (1 : Int32)) &&& (1 : Int32)) = (0 : Int32) ∧ x_97 = (0 : Int32)) ∨ (¬ ((XT.ushr p0 (1 : Int32)) &&& (1 : Int32)) = (0 : Int32) ∧ x_97 = (1 : Int32))) → Go p e below (Pst false EL1 Z s room_1 (fun v h sf => v = some (.int (1 : Int32)))) (T95.setTop (mkF m 40 #[.val (.int p0), .val (.int p1), .val (.int p2), .val (.int p3), .val (.int x_1), .val (.ref L95), .unset, .unset, .unset, .unset, .unset, .unset, .unset, .unset, .unset, .unset, .unset] [(.int x_97)])) by
      by_cases hc32_98 : ((XT.ushr p0 (1 : Int32)) &&& (1 : Int32)) = (0 : Int32)
      · skip
        refine gIfY (pc' := 39) w95 at_32 (teq hc32_98).1 (by decide) (by decide) ?_
        refine gIconst (pc' := 40) w95 at_39 rfl (z := (0 : Int32)) rfl ?_
        exact hJ97 (0 : Int32) (Or.inl ⟨hc32_98, rfl⟩)
      · skip
        refine gIfN (pc' := 35) w95 at_32 (feq hc32_98).1 rfl ?_
        refine gIconst (pc' := 36) w95 at_35 rfl (z := (1 : Int32)) rfl ?_
        refine gGoto (pc' := 40) w95 at_36 (by decide) (by decide) ?_
        exact hJ97 (1 : Int32) (Or.inr ⟨hc32_98, rfl⟩)
    intro x_97 f97
    refine gIstore (pc' := 42) w95 at_40 rfl (Ls' := #[.val (.int p0), .val (.int p1), .val (.int p2), .val (.int p3), .val (.int x_1), .val (.ref L95), .val (.int x_97), .unset, .unset, .unset, .unset, .unset, .unset, .unset, .unset, .unset, .unset]) rfl ?_
    refine gIloadN (pc' := 43) w95 at_42 rfl rfl ?_
    refine gIconst (pc' := 44) w95 at_43 rfl (z := (2 : Int32)) rfl ?_
    refine gIushr (pc' := 45) w95 at_44 rfl ?_
    refine gIconst (pc' := 46) w95 at_45 rfl (z := (3 : Int32)) rfl ?_
    refine gIand (pc' := 47) w95 at_46 rfl ?_
    refine gIstore (pc' := 49) w95 at_47 rfl (Ls' := #[.val (.int p0), .val (.int p1), .val (.int p2), .val (.int p3), .val (.int x_1), .val (.ref L95), .val (.int x_97), .val (.int ((XT.ushr p0 (2 : Int32)) &&& (3 : Int32))), .unset, .unset, .unset, .unset, .unset, .unset, .unset, .unset, .unset]) rfl ?_
    refine gAload (pc' := 51) w95 at_49 rfl rfl rfl ?_
    refine wStrLen (pc' := 54) w95 (strlenw G) (tw2 G) (tw8 G) (tw9 G) (tw11 G) (tw10 G) S96 (cst G).1 (cst G).2 [] rfl sw0 (by decide) (by decide) (by decide) (by decide) at_51 rfl ?_
    intro T99 z99 w99 e99
    obtain rfl : z99 = (9 : Int32) := e99
    refine gIstore (pc' := 56) w99 at_54 rfl (Ls' := #[.val (.int p0), .val (.int p1), .val (.int p2), .val (.int p3), .val (.int x_1), .val (.ref L95), .val (.int x_97), .val (.int ((XT.ushr p0 (2 : Int32)) &&& (3 : Int32))), .val (.int (9 : Int32)), .unset, .unset, .unset, .unset, .unset, .unset, .unset, .unset]) rfl ?_
    refine gIload (pc' := 58) w99 at_56 rfl rfl ?_
    suffices hJ100 : ∀ (n_100 : Int32), (¬ n_100 < 0 ∧ ¬ (10 : Int32) < n_100) → Go p e below (Pst false EL1 Z s room_1 (fun v h sf => v = some (.int (1 : Int32)))) (T99.setTop (mkF m 109 #[.val (.int p0), .val (.int p1), .val (.int p2), .val (.int p3), .val (.int x_1), .val (.ref L95), .val (.int x_97), .val (.int ((XT.ushr p0 (2 : Int32)) &&& (3 : Int32))), .val (.int (9 : Int32)), .val (.int n_100), .unset, .unset, .unset, .unset, .unset, .unset, .unset] [])) by
      by_cases hc58_101 : ((XT.ushr p0 (2 : Int32)) &&& (3 : Int32)) = (0 : Int32)
      · skip
        refine gIfN (pc' := 61) w99 at_58 (teq hc58_101).2 rfl ?_
        refine gIload (pc' := 63) w99 at_61 rfl rfl ?_
        refine gIstore (pc' := 65) w99 at_63 rfl (Ls' := #[.val (.int p0), .val (.int p1), .val (.int p2), .val (.int p3), .val (.int x_1), .val (.ref L95), .val (.int x_97), .val (.int ((XT.ushr p0 (2 : Int32)) &&& (3 : Int32))), .val (.int (9 : Int32)), .val (.int (9 : Int32)), .unset, .unset, .unset, .unset, .unset, .unset, .unset]) rfl ?_
        refine gGoto (pc' := 109) w99 at_65 (by decide) (by decide) ?_
        exact hJ100 (9 : Int32) (by decide)
      · skip
        refine gIfY (pc' := 68) w99 at_58 (feq hc58_101).2 (by decide) (by decide) ?_
        refine gIload (pc' := 70) w99 at_68 rfl rfl ?_
        refine gIconst (pc' := 71) w99 at_70 rfl (z := (1 : Int32)) rfl ?_
        by_cases hc71_102 : ((XT.ushr p0 (2 : Int32)) &&& (3 : Int32)) = (1 : Int32)
        · skip
          refine gIcN (pc' := 74) w99 at_71 (teq hc71_102).2 rfl ?_
          refine gIload (pc' := 76) w99 at_74 rfl rfl ?_
          refine gIconst (pc' := 77) w99 at_76 rfl (z := (1 : Int32)) rfl ?_
          refine gIsub (pc' := 78) w99 at_77 rfl ?_
          refine goV (by decide : ((9 : Int32) - (1 : Int32)) = (8 : Int32)) ?_
          refine gIstore (pc' := 80) w99 at_78 rfl (Ls' := #[.val (.int p0), .val (.int p1), .val (.int p2), .val (.int p3), .val (.int x_1), .val (.ref L95), .val (.int x_97), .val (.int ((XT.ushr p0 (2 : Int32)) &&& (3 : Int32))), .val (.int (9 : Int32)), .val (.int (8 : Int32)), .unset, .unset, .unset, .unset, .unset, .unset, .unset]) rfl ?_
          refine gGoto (pc' := 109) w99 at_80 (by decide) (by decide) ?_
          exact hJ100 (8 : Int32) (by decide)
        · skip
          refine gIcY (pc' := 83) w99 at_71 (feq hc71_102).2 (by decide) (by decide) ?_
          refine gIload (pc' := 85) w99 at_83 rfl rfl ?_
          refine gIconst (pc' := 86) w99 at_85 rfl (z := (2 : Int32)) rfl ?_
          by_cases hc86_103 : ((XT.ushr p0 (2 : Int32)) &&& (3 : Int32)) = (2 : Int32)
          · skip
            refine gIcN (pc' := 89) w99 at_86 (teq hc86_103).2 rfl ?_
            refine gIload (pc' := 91) w99 at_89 rfl rfl ?_
            refine gIconst (pc' := 92) w99 at_91 rfl (z := (1 : Int32)) rfl ?_
            refine gIadd (pc' := 93) w99 at_92 rfl ?_
            refine goV (by decide : ((9 : Int32) + (1 : Int32)) = (10 : Int32)) ?_
            refine gIstore (pc' := 95) w99 at_93 rfl (Ls' := #[.val (.int p0), .val (.int p1), .val (.int p2), .val (.int p3), .val (.int x_1), .val (.ref L95), .val (.int x_97), .val (.int ((XT.ushr p0 (2 : Int32)) &&& (3 : Int32))), .val (.int (9 : Int32)), .val (.int (10 : Int32)), .unset, .unset, .unset, .unset, .unset, .unset, .unset]) rfl ?_
            refine gGoto (pc' := 109) w99 at_95 (by decide) (by decide) ?_
            exact hJ100 (10 : Int32) (by decide)
          · skip
            refine gIcY (pc' := 98) w99 at_86 (feq hc86_103).2 (by decide) (by decide) ?_
            refine gIloadN (pc' := 99) w99 at_98 rfl rfl ?_
            refine gIconst (pc' := 100) w99 at_99 rfl (z := (4 : Int32)) rfl ?_
            refine gIushr (pc' := 101) w99 at_100 rfl ?_
            refine gLdcI (pc' := 103) w99 (tw21 G) at_101 rfl ?_
            refine gIand (pc' := 104) w99 at_103 rfl ?_
            refine gBipush (pc' := 106) w99 at_104 rfl (z := (11 : Int32)) rfl ?_
            refine gIrem (pc' := 107) w99 at_106 rfl (by decide) ?_
            refine gIstore (pc' := 109) w99 at_107 rfl (Ls' := #[.val (.int p0), .val (.int p1), .val (.int p2), .val (.int p3), .val (.int x_1), .val (.ref L95), .val (.int x_97), .val (.int ((XT.ushr p0 (2 : Int32)) &&& (3 : Int32))), .val (.int (9 : Int32)), .val (.int (((XT.ushr p1 (4 : Int32)) &&& (2147483647 : Int32)) % (11 : Int32))), .unset, .unset, .unset, .unset, .unset, .unset, .unset]) rfl ?_
            exact hJ100 (((XT.ushr p1 (4 : Int32)) &&& (2147483647 : Int32)) % (11 : Int32)) (rem11 _)
    intro n_100 f100
    refine gIloadN (pc' := 110) w99 at_109 rfl rfl ?_
    refine gLdcI (pc' := 112) w99 (tw21 G) at_110 rfl ?_
    refine gIand (pc' := 113) w99 at_112 rfl ?_
    refine gBipush (pc' := 115) w99 at_113 rfl (z := (10 : Int32)) rfl ?_
    refine gIrem (pc' := 116) w99 at_115 rfl (by decide) ?_
    refine gIstore (pc' := 118) w99 at_116 rfl (Ls' := #[.val (.int p0), .val (.int p1), .val (.int p2), .val (.int p3), .val (.int x_1), .val (.ref L95), .val (.int x_97), .val (.int ((XT.ushr p0 (2 : Int32)) &&& (3 : Int32))), .val (.int (9 : Int32)), .val (.int n_100), .val (.int ((p1 &&& (2147483647 : Int32)) % (10 : Int32))), .unset, .unset, .unset, .unset, .unset, .unset]) rfl ?_
    refine gIloadN (pc' := 119) w99 at_118 rfl rfl ?_
    refine gSipush (pc' := 122) w99 at_119 rfl (z := (255 : Int32)) rfl ?_
    refine gIand (pc' := 123) w99 at_122 rfl ?_
    refine gI2c (pc' := 124) w99 at_123 rfl (z := (p2 &&& (255 : Int32))) (i2c_mask _) ?_
    refine gIstore (pc' := 126) w99 at_124 rfl (Ls' := #[.val (.int p0), .val (.int p1), .val (.int p2), .val (.int p3), .val (.int x_1), .val (.ref L95), .val (.int x_97), .val (.int ((XT.ushr p0 (2 : Int32)) &&& (3 : Int32))), .val (.int (9 : Int32)), .val (.int n_100), .val (.int ((p1 &&& (2147483647 : Int32)) % (10 : Int32))), .val (.int (p2 &&& (255 : Int32))), .unset, .unset, .unset, .unset, .unset]) rfl ?_
    refine gIloadN (pc' := 127) w99 at_126 rfl rfl ?_
    refine gSipush (pc' := 130) w99 at_127 rfl (z := (255 : Int32)) rfl ?_
    refine gIand (pc' := 131) w99 at_130 rfl ?_
    refine gI2c (pc' := 132) w99 at_131 rfl (z := (p3 &&& (255 : Int32))) (i2c_mask _) ?_
    refine gIstore (pc' := 134) w99 at_132 rfl (Ls' := #[.val (.int p0), .val (.int p1), .val (.int p2), .val (.int p3), .val (.int x_1), .val (.ref L95), .val (.int x_97), .val (.int ((XT.ushr p0 (2 : Int32)) &&& (3 : Int32))), .val (.int (9 : Int32)), .val (.int n_100), .val (.int ((p1 &&& (2147483647 : Int32)) % (10 : Int32))), .val (.int (p2 &&& (255 : Int32))), .val (.int (p3 &&& (255 : Int32))), .unset, .unset, .unset, .unset]) rfl ?_
    refine gIload (pc' := 136) w99 at_134 rfl rfl ?_
    refine wNewP (pc' := 138) w99 (ty := .char) rfl (tw22 G) f100.1 10 (cap10 f100) (by decide) at_136 rfl (by decide) (by decide) ?_
    intro T104 h104 b104 kc104 g104 w104 K104 A104
    have A105 : Arv Z h104 b104 kc104 .char n_100 ((List.replicate n_100.toNatClampNeg (0 : Int32)).map Value.int) (.int 0) := by rw [List.map_replicate]; exact A104.pad (pad_rep [] (.int 0) n_100.toNatClampNeg)
    refine gAstore (pc' := 140) w104 at_138 rfl rfl (Ls' := #[.val (.int p0), .val (.int p1), .val (.int p2), .val (.int p3), .val (.int x_1), .val (.ref L95), .val (.int x_97), .val (.int ((XT.ushr p0 (2 : Int32)) &&& (3 : Int32))), .val (.int (9 : Int32)), .val (.int n_100), .val (.int ((p1 &&& (2147483647 : Int32)) % (10 : Int32))), .val (.int (p2 &&& (255 : Int32))), .val (.int (p3 &&& (255 : Int32))), .val (.ref b104), .unset, .unset, .unset]) rfl ?_
    refine gAload (pc' := 142) w104 at_140 rfl rfl rfl ?_
    refine gIconst (pc' := 143) w104 at_142 rfl (z := (0 : Int32)) rfl ?_
    refine gAload (pc' := 145) w104 at_143 rfl rfl rfl ?_
    refine gIload (pc' := 147) w104 at_145 rfl rfl ?_
    refine gIload (pc' := 149) w104 at_147 rfl rfl ?_
    refine gIload (pc' := 151) w104 at_149 rfl rfl ?_
    refine gIload (pc' := 153) w104 at_151 rfl rfl ?_
    have K1_2_107 : Keep h95 h104 [] := K104
    have F106 : Str Z h104 L95 ([45, 45, 118, 101, 114, 98, 111, 115, 101] : List Int32) := S96.keep K1_2_107
    refine wCallS (pc' := 156) w104 (c3 G l w104.old b104 kc104 n_100 (List.replicate n_100.toNatClampNeg (0 : Int32)) List.length_replicate (Lat.rep _) 0 (by decide) L95 ([45, 45, 118, 101, 114, 98, 111, 115, 101] : List Int32) (by unfold Lat; decide) (p2 &&& (255 : Int32)) (m255 _) x_97 ((p1 &&& (2147483647 : Int32)) % (10 : Int32)) (p3 &&& (255 : Int32)) (m255 _) (Nat.le_trans w95.old.1 (Nat.le_of_eq g104.symm)) A105 F106) (fun q => q) (fun _ q => nomatch q) (tw23 G) (tw24 G) (tw25 G) (tw26 G) (by decide) [(.ref b104), (.int (0 : Int32)), (.ref L95), (.int (p2 &&& (255 : Int32))), (.int x_97), (.int ((p1 &&& (2147483647 : Int32)) % (10 : Int32))), (.int (p3 &&& (255 : Int32)))] [] (ps := [(.array .char), .int, (.object "java/lang/String"), .char, .boolean, .int, .char]) (rt := none) pd2 rfl rfl rfl rfl sw0 (by decide) (by decide) (by decide) (by decide) at_153 rfl ?_
    intro v108 T108 h108 w108 q108
    obtain ⟨rfl, cs108, K108, A108, hl108, hb108⟩ := q108
    have hm108 : cs108.length = n_100.toNatClampNeg := hl108.trans List.length_replicate
    refine gAload (pc' := 158) w108 at_156 rfl rfl rfl ?_
    refine gIconst (pc' := 159) w108 at_158 rfl (z := (1 : Int32)) rfl ?_
    refine gAload (pc' := 161) w108 at_159 rfl rfl rfl ?_
    refine gIload (pc' := 163) w108 at_161 rfl rfl ?_
    refine gIload (pc' := 165) w108 at_163 rfl rfl ?_
    refine gIload (pc' := 167) w108 at_165 rfl rfl ?_
    refine gIload (pc' := 169) w108 at_167 rfl rfl ?_
    have K1_3_110 : Keep h95 h108 [] := ((K1_2_107).trans K108 (allS (Or.inr (Nat.le_of_eq g104.symm)) all0))
    have F109 : Str Z h108 L95 ([45, 45, 118, 101, 114, 98, 111, 115, 101] : List Int32) := S96.keep K1_3_110
    refine wCallS (pc' := 172) w108 (c3 G l w108.old b104 kc104 n_100 cs108 hm108 hb108 1 (by decide) L95 ([45, 45, 118, 101, 114, 98, 111, 115, 101] : List Int32) (by unfold Lat; decide) (p2 &&& (255 : Int32)) (m255 _) x_97 ((p1 &&& (2147483647 : Int32)) % (10 : Int32)) (p3 &&& (255 : Int32)) (m255 _) (Nat.le_trans w95.old.1 (Nat.le_of_eq g104.symm)) A108 F109) (fun q => q) (fun _ q => nomatch q) (tw23 G) (tw24 G) (tw25 G) (tw26 G) (by decide) [(.ref b104), (.int (1 : Int32)), (.ref L95), (.int (p2 &&& (255 : Int32))), (.int x_97), (.int ((p1 &&& (2147483647 : Int32)) % (10 : Int32))), (.int (p3 &&& (255 : Int32)))] [] (ps := [(.array .char), .int, (.object "java/lang/String"), .char, .boolean, .int, .char]) (rt := none) pd2 rfl rfl rfl rfl sw0 (by decide) (by decide) (by decide) (by decide) at_169 rfl ?_
    intro v111 T111 h111 w111 q111
    obtain ⟨rfl, cs111, K111, A111, hl111, hb111⟩ := q111
    have hm111 : cs111.length = n_100.toNatClampNeg := hl111.trans hm108
    refine gAload (pc' := 174) w111 at_172 rfl rfl rfl ?_
    refine gIconst (pc' := 175) w111 at_174 rfl (z := (2 : Int32)) rfl ?_
    refine gAload (pc' := 177) w111 at_175 rfl rfl rfl ?_
    refine gIload (pc' := 179) w111 at_177 rfl rfl ?_
    refine gIload (pc' := 181) w111 at_179 rfl rfl ?_
    refine gIload (pc' := 183) w111 at_181 rfl rfl ?_
    refine gIload (pc' := 185) w111 at_183 rfl rfl ?_
    have K1_4_113 : Keep h95 h111 [] := ((K1_3_110).trans K111 (allS (Or.inr (Nat.le_of_eq g104.symm)) all0))
    have F112 : Str Z h111 L95 ([45, 45, 118, 101, 114, 98, 111, 115, 101] : List Int32) := S96.keep K1_4_113
    refine wCallS (pc' := 188) w111 (c3 G l w111.old b104 kc104 n_100 cs111 hm111 hb111 2 (by decide) L95 ([45, 45, 118, 101, 114, 98, 111, 115, 101] : List Int32) (by unfold Lat; decide) (p2 &&& (255 : Int32)) (m255 _) x_97 ((p1 &&& (2147483647 : Int32)) % (10 : Int32)) (p3 &&& (255 : Int32)) (m255 _) (Nat.le_trans w95.old.1 (Nat.le_of_eq g104.symm)) A111 F112) (fun q => q) (fun _ q => nomatch q) (tw23 G) (tw24 G) (tw25 G) (tw26 G) (by decide) [(.ref b104), (.int (2 : Int32)), (.ref L95), (.int (p2 &&& (255 : Int32))), (.int x_97), (.int ((p1 &&& (2147483647 : Int32)) % (10 : Int32))), (.int (p3 &&& (255 : Int32)))] [] (ps := [(.array .char), .int, (.object "java/lang/String"), .char, .boolean, .int, .char]) (rt := none) pd2 rfl rfl rfl rfl sw0 (by decide) (by decide) (by decide) (by decide) at_185 rfl ?_
    intro v114 T114 h114 w114 q114
    obtain ⟨rfl, cs114, K114, A114, hl114, hb114⟩ := q114
    have hm114 : cs114.length = n_100.toNatClampNeg := hl114.trans hm111
    refine gAload (pc' := 190) w114 at_188 rfl rfl rfl ?_
    refine gIconst (pc' := 191) w114 at_190 rfl (z := (3 : Int32)) rfl ?_
    refine gAload (pc' := 193) w114 at_191 rfl rfl rfl ?_
    refine gIload (pc' := 195) w114 at_193 rfl rfl ?_
    refine gIload (pc' := 197) w114 at_195 rfl rfl ?_
    refine gIload (pc' := 199) w114 at_197 rfl rfl ?_
    refine gIload (pc' := 201) w114 at_199 rfl rfl ?_
    have K1_5_116 : Keep h95 h114 [] := ((K1_4_113).trans K114 (allS (Or.inr (Nat.le_of_eq g104.symm)) all0))
    have F115 : Str Z h114 L95 ([45, 45, 118, 101, 114, 98, 111, 115, 101] : List Int32) := S96.keep K1_5_116
    refine wCallS (pc' := 204) w114 (c3 G l w114.old b104 kc104 n_100 cs114 hm114 hb114 3 (by decide) L95 ([45, 45, 118, 101, 114, 98, 111, 115, 101] : List Int32) (by unfold Lat; decide) (p2 &&& (255 : Int32)) (m255 _) x_97 ((p1 &&& (2147483647 : Int32)) % (10 : Int32)) (p3 &&& (255 : Int32)) (m255 _) (Nat.le_trans w95.old.1 (Nat.le_of_eq g104.symm)) A114 F115) (fun q => q) (fun _ q => nomatch q) (tw23 G) (tw24 G) (tw25 G) (tw26 G) (by decide) [(.ref b104), (.int (3 : Int32)), (.ref L95), (.int (p2 &&& (255 : Int32))), (.int x_97), (.int ((p1 &&& (2147483647 : Int32)) % (10 : Int32))), (.int (p3 &&& (255 : Int32)))] [] (ps := [(.array .char), .int, (.object "java/lang/String"), .char, .boolean, .int, .char]) (rt := none) pd2 rfl rfl rfl rfl sw0 (by decide) (by decide) (by decide) (by decide) at_201 rfl ?_
    intro v117 T117 h117 w117 q117
    obtain ⟨rfl, cs117, K117, A117, hl117, hb117⟩ := q117
    have hm117 : cs117.length = n_100.toNatClampNeg := hl117.trans hm114
    refine gAload (pc' := 206) w117 at_204 rfl rfl rfl ?_
    refine gIconst (pc' := 207) w117 at_206 rfl (z := (4 : Int32)) rfl ?_
    refine gAload (pc' := 209) w117 at_207 rfl rfl rfl ?_
    refine gIload (pc' := 211) w117 at_209 rfl rfl ?_
    refine gIload (pc' := 213) w117 at_211 rfl rfl ?_
    refine gIload (pc' := 215) w117 at_213 rfl rfl ?_
    refine gIload (pc' := 217) w117 at_215 rfl rfl ?_
    have K1_6_119 : Keep h95 h117 [] := ((K1_5_116).trans K117 (allS (Or.inr (Nat.le_of_eq g104.symm)) all0))
    have F118 : Str Z h117 L95 ([45, 45, 118, 101, 114, 98, 111, 115, 101] : List Int32) := S96.keep K1_6_119
    refine wCallS (pc' := 220) w117 (c3 G l w117.old b104 kc104 n_100 cs117 hm117 hb117 4 (by decide) L95 ([45, 45, 118, 101, 114, 98, 111, 115, 101] : List Int32) (by unfold Lat; decide) (p2 &&& (255 : Int32)) (m255 _) x_97 ((p1 &&& (2147483647 : Int32)) % (10 : Int32)) (p3 &&& (255 : Int32)) (m255 _) (Nat.le_trans w95.old.1 (Nat.le_of_eq g104.symm)) A117 F118) (fun q => q) (fun _ q => nomatch q) (tw23 G) (tw24 G) (tw25 G) (tw26 G) (by decide) [(.ref b104), (.int (4 : Int32)), (.ref L95), (.int (p2 &&& (255 : Int32))), (.int x_97), (.int ((p1 &&& (2147483647 : Int32)) % (10 : Int32))), (.int (p3 &&& (255 : Int32)))] [] (ps := [(.array .char), .int, (.object "java/lang/String"), .char, .boolean, .int, .char]) (rt := none) pd2 rfl rfl rfl rfl sw0 (by decide) (by decide) (by decide) (by decide) at_217 rfl ?_
    intro v120 T120 h120 w120 q120
    obtain ⟨rfl, cs120, K120, A120, hl120, hb120⟩ := q120
    have hm120 : cs120.length = n_100.toNatClampNeg := hl120.trans hm117
    refine gAload (pc' := 222) w120 at_220 rfl rfl rfl ?_
    refine gIconst (pc' := 223) w120 at_222 rfl (z := (5 : Int32)) rfl ?_
    refine gAload (pc' := 225) w120 at_223 rfl rfl rfl ?_
    refine gIload (pc' := 227) w120 at_225 rfl rfl ?_
    refine gIload (pc' := 229) w120 at_227 rfl rfl ?_
    refine gIload (pc' := 231) w120 at_229 rfl rfl ?_
    refine gIload (pc' := 233) w120 at_231 rfl rfl ?_
    have K1_7_122 : Keep h95 h120 [] := ((K1_6_119).trans K120 (allS (Or.inr (Nat.le_of_eq g104.symm)) all0))
    have F121 : Str Z h120 L95 ([45, 45, 118, 101, 114, 98, 111, 115, 101] : List Int32) := S96.keep K1_7_122
    refine wCallS (pc' := 236) w120 (c3 G l w120.old b104 kc104 n_100 cs120 hm120 hb120 5 (by decide) L95 ([45, 45, 118, 101, 114, 98, 111, 115, 101] : List Int32) (by unfold Lat; decide) (p2 &&& (255 : Int32)) (m255 _) x_97 ((p1 &&& (2147483647 : Int32)) % (10 : Int32)) (p3 &&& (255 : Int32)) (m255 _) (Nat.le_trans w95.old.1 (Nat.le_of_eq g104.symm)) A120 F121) (fun q => q) (fun _ q => nomatch q) (tw23 G) (tw24 G) (tw25 G) (tw26 G) (by decide) [(.ref b104), (.int (5 : Int32)), (.ref L95), (.int (p2 &&& (255 : Int32))), (.int x_97), (.int ((p1 &&& (2147483647 : Int32)) % (10 : Int32))), (.int (p3 &&& (255 : Int32)))] [] (ps := [(.array .char), .int, (.object "java/lang/String"), .char, .boolean, .int, .char]) (rt := none) pd2 rfl rfl rfl rfl sw0 (by decide) (by decide) (by decide) (by decide) at_233 rfl ?_
    intro v123 T123 h123 w123 q123
    obtain ⟨rfl, cs123, K123, A123, hl123, hb123⟩ := q123
    have hm123 : cs123.length = n_100.toNatClampNeg := hl123.trans hm120
    refine gAload (pc' := 238) w123 at_236 rfl rfl rfl ?_
    refine gBipush (pc' := 240) w123 at_238 rfl (z := (6 : Int32)) rfl ?_
    refine gAload (pc' := 242) w123 at_240 rfl rfl rfl ?_
    refine gIload (pc' := 244) w123 at_242 rfl rfl ?_
    refine gIload (pc' := 246) w123 at_244 rfl rfl ?_
    refine gIload (pc' := 248) w123 at_246 rfl rfl ?_
    refine gIload (pc' := 250) w123 at_248 rfl rfl ?_
    have K1_8_125 : Keep h95 h123 [] := ((K1_7_122).trans K123 (allS (Or.inr (Nat.le_of_eq g104.symm)) all0))
    have F124 : Str Z h123 L95 ([45, 45, 118, 101, 114, 98, 111, 115, 101] : List Int32) := S96.keep K1_8_125
    refine wCallS (pc' := 253) w123 (c3 G l w123.old b104 kc104 n_100 cs123 hm123 hb123 6 (by decide) L95 ([45, 45, 118, 101, 114, 98, 111, 115, 101] : List Int32) (by unfold Lat; decide) (p2 &&& (255 : Int32)) (m255 _) x_97 ((p1 &&& (2147483647 : Int32)) % (10 : Int32)) (p3 &&& (255 : Int32)) (m255 _) (Nat.le_trans w95.old.1 (Nat.le_of_eq g104.symm)) A123 F124) (fun q => q) (fun _ q => nomatch q) (tw23 G) (tw24 G) (tw25 G) (tw26 G) (by decide) [(.ref b104), (.int (6 : Int32)), (.ref L95), (.int (p2 &&& (255 : Int32))), (.int x_97), (.int ((p1 &&& (2147483647 : Int32)) % (10 : Int32))), (.int (p3 &&& (255 : Int32)))] [] (ps := [(.array .char), .int, (.object "java/lang/String"), .char, .boolean, .int, .char]) (rt := none) pd2 rfl rfl rfl rfl sw0 (by decide) (by decide) (by decide) (by decide) at_250 rfl ?_
    intro v126 T126 h126 w126 q126
    obtain ⟨rfl, cs126, K126, A126, hl126, hb126⟩ := q126
    have hm126 : cs126.length = n_100.toNatClampNeg := hl126.trans hm123
    refine gAload (pc' := 255) w126 at_253 rfl rfl rfl ?_
    refine gBipush (pc' := 257) w126 at_255 rfl (z := (7 : Int32)) rfl ?_
    refine gAload (pc' := 259) w126 at_257 rfl rfl rfl ?_
    refine gIload (pc' := 261) w126 at_259 rfl rfl ?_
    refine gIload (pc' := 263) w126 at_261 rfl rfl ?_
    refine gIload (pc' := 265) w126 at_263 rfl rfl ?_
    refine gIload (pc' := 267) w126 at_265 rfl rfl ?_
    have K1_9_128 : Keep h95 h126 [] := ((K1_8_125).trans K126 (allS (Or.inr (Nat.le_of_eq g104.symm)) all0))
    have F127 : Str Z h126 L95 ([45, 45, 118, 101, 114, 98, 111, 115, 101] : List Int32) := S96.keep K1_9_128
    refine wCallS (pc' := 270) w126 (c3 G l w126.old b104 kc104 n_100 cs126 hm126 hb126 7 (by decide) L95 ([45, 45, 118, 101, 114, 98, 111, 115, 101] : List Int32) (by unfold Lat; decide) (p2 &&& (255 : Int32)) (m255 _) x_97 ((p1 &&& (2147483647 : Int32)) % (10 : Int32)) (p3 &&& (255 : Int32)) (m255 _) (Nat.le_trans w95.old.1 (Nat.le_of_eq g104.symm)) A126 F127) (fun q => q) (fun _ q => nomatch q) (tw23 G) (tw24 G) (tw25 G) (tw26 G) (by decide) [(.ref b104), (.int (7 : Int32)), (.ref L95), (.int (p2 &&& (255 : Int32))), (.int x_97), (.int ((p1 &&& (2147483647 : Int32)) % (10 : Int32))), (.int (p3 &&& (255 : Int32)))] [] (ps := [(.array .char), .int, (.object "java/lang/String"), .char, .boolean, .int, .char]) (rt := none) pd2 rfl rfl rfl rfl sw0 (by decide) (by decide) (by decide) (by decide) at_267 rfl ?_
    intro v129 T129 h129 w129 q129
    obtain ⟨rfl, cs129, K129, A129, hl129, hb129⟩ := q129
    have hm129 : cs129.length = n_100.toNatClampNeg := hl129.trans hm126
    refine gAload (pc' := 272) w129 at_270 rfl rfl rfl ?_
    refine gBipush (pc' := 274) w129 at_272 rfl (z := (8 : Int32)) rfl ?_
    refine gAload (pc' := 276) w129 at_274 rfl rfl rfl ?_
    refine gIload (pc' := 278) w129 at_276 rfl rfl ?_
    refine gIload (pc' := 280) w129 at_278 rfl rfl ?_
    refine gIload (pc' := 282) w129 at_280 rfl rfl ?_
    refine gIload (pc' := 284) w129 at_282 rfl rfl ?_
    have K1_10_131 : Keep h95 h129 [] := ((K1_9_128).trans K129 (allS (Or.inr (Nat.le_of_eq g104.symm)) all0))
    have F130 : Str Z h129 L95 ([45, 45, 118, 101, 114, 98, 111, 115, 101] : List Int32) := S96.keep K1_10_131
    refine wCallS (pc' := 287) w129 (c3 G l w129.old b104 kc104 n_100 cs129 hm129 hb129 8 (by decide) L95 ([45, 45, 118, 101, 114, 98, 111, 115, 101] : List Int32) (by unfold Lat; decide) (p2 &&& (255 : Int32)) (m255 _) x_97 ((p1 &&& (2147483647 : Int32)) % (10 : Int32)) (p3 &&& (255 : Int32)) (m255 _) (Nat.le_trans w95.old.1 (Nat.le_of_eq g104.symm)) A129 F130) (fun q => q) (fun _ q => nomatch q) (tw23 G) (tw24 G) (tw25 G) (tw26 G) (by decide) [(.ref b104), (.int (8 : Int32)), (.ref L95), (.int (p2 &&& (255 : Int32))), (.int x_97), (.int ((p1 &&& (2147483647 : Int32)) % (10 : Int32))), (.int (p3 &&& (255 : Int32)))] [] (ps := [(.array .char), .int, (.object "java/lang/String"), .char, .boolean, .int, .char]) (rt := none) pd2 rfl rfl rfl rfl sw0 (by decide) (by decide) (by decide) (by decide) at_284 rfl ?_
    intro v132 T132 h132 w132 q132
    obtain ⟨rfl, cs132, K132, A132, hl132, hb132⟩ := q132
    have hm132 : cs132.length = n_100.toNatClampNeg := hl132.trans hm129
    refine gAload (pc' := 289) w132 at_287 rfl rfl rfl ?_
    refine gBipush (pc' := 291) w132 at_289 rfl (z := (9 : Int32)) rfl ?_
    refine gAload (pc' := 293) w132 at_291 rfl rfl rfl ?_
    refine gIload (pc' := 295) w132 at_293 rfl rfl ?_
    refine gIload (pc' := 297) w132 at_295 rfl rfl ?_
    refine gIload (pc' := 299) w132 at_297 rfl rfl ?_
    refine gIload (pc' := 301) w132 at_299 rfl rfl ?_
    have K1_11_134 : Keep h95 h132 [] := ((K1_10_131).trans K132 (allS (Or.inr (Nat.le_of_eq g104.symm)) all0))
    have F133 : Str Z h132 L95 ([45, 45, 118, 101, 114, 98, 111, 115, 101] : List Int32) := S96.keep K1_11_134
    refine wCallS (pc' := 304) w132 (c3 G l w132.old b104 kc104 n_100 cs132 hm132 hb132 9 (by decide) L95 ([45, 45, 118, 101, 114, 98, 111, 115, 101] : List Int32) (by unfold Lat; decide) (p2 &&& (255 : Int32)) (m255 _) x_97 ((p1 &&& (2147483647 : Int32)) % (10 : Int32)) (p3 &&& (255 : Int32)) (m255 _) (Nat.le_trans w95.old.1 (Nat.le_of_eq g104.symm)) A132 F133) (fun q => q) (fun _ q => nomatch q) (tw23 G) (tw24 G) (tw25 G) (tw26 G) (by decide) [(.ref b104), (.int (9 : Int32)), (.ref L95), (.int (p2 &&& (255 : Int32))), (.int x_97), (.int ((p1 &&& (2147483647 : Int32)) % (10 : Int32))), (.int (p3 &&& (255 : Int32)))] [] (ps := [(.array .char), .int, (.object "java/lang/String"), .char, .boolean, .int, .char]) (rt := none) pd2 rfl rfl rfl rfl sw0 (by decide) (by decide) (by decide) (by decide) at_301 rfl ?_
    intro v135 T135 h135 w135 q135
    obtain ⟨rfl, cs135, K135, A135, hl135, hb135⟩ := q135
    have hm135 : cs135.length = n_100.toNatClampNeg := hl135.trans hm132
    refine wNewS (pc' := 307) w135 (tw52 G) (tw2 G) (tw1 G) at_304 rfl (by decide) (by decide) ?_
    intro T136 h136 b136 g136 w136 K136 E136 D136
    refine gDup (pc' := 308) w136 at_307 rfl rfl ?_
    refine gAload (pc' := 310) w136 at_308 rfl rfl rfl ?_
    suffices hJ137 : ∀ (T137 : State) (h137 : Heap), Wk false EL1 Z a0 "com/example/countersign/countersign/CommandLogIsSwitchPinLaw" code maxLocals ret "law" p l e room_1 s m #[(.int p0), (.int p1), (.int p2), (.int p3)] below meth c T137 h137 [b136] 8 64 → Keep h136 h137 [b136] → Str Z h137 b136 cs135 → Go p e below (Pst false EL1 Z s room_1 (fun v h sf => v = some (.int (1 : Int32)))) (T137.setTop (mkF m 313 #[.val (.int p0), .val (.int p1), .val (.int p2), .val (.int p3), .val (.int x_1), .val (.ref L95), .val (.int x_97), .val (.int ((XT.ushr p0 (2 : Int32)) &&& (3 : Int32))), .val (.int (9 : Int32)), .val (.int n_100), .val (.int ((p1 &&& (2147483647 : Int32)) % (10 : Int32))), .val (.int (p2 &&& (255 : Int32))), .val (.int (p3 &&& (255 : Int32))), .val (.ref b104), .unset, .unset, .unset] [(.ref b136)])) by
      by_cases hs138 : cs135.length = 0
      · skip
        have cn138 : cs135 = [] := List.eq_nil_of_length_eq_zero hs138
        have zn138 : n_100 = (0 : Int32) := toN f100 (hs138.symm.trans hm135)
        have K12_13_140 : Keep h135 h136 [] := K136
        have F139 : Arv Z h136 b104 kc104 .char n_100 (cs135.map Value.int) (.int 0) := A135.keep K12_13_140 nin0
        have Az138 : Arv Z h136 b104 kc104 .char (0 : Int32) [] (.int 0) := by have q := F139; rw [cn138, zn138] at q; exact q
        have F141 : Fld Z h136 b136 "java/lang/String" "value" "[B" .null := D136 (Or.inr (tw4 G)) (ty := (.array .byte)) (by decide)
        have F142 : Fld Z h136 b136 "java/lang/String" "coder" "B" (.int (0 : Int32)) := D136 (Or.inr (tw5 G)) (ty := .byte) (by decide)
        refine wCallX (pc' := 313) w136 (cE1 G l w136.old b136 b104 kc104 (Nat.le_trans w135.old.1 (Nat.le_of_eq g136.symm)) E136 F141 F142 Az138) (fun q => q) (fun x q => (List.mem_singleton.mp q) ▸ (List.mem_cons_self ..)) rfl rfl (tw53 G) (tw54 G) (tw1 G) (tw55 G) (by decide) [(.ref b104)] [(.ref b136)] (ps := [(.array .char)]) (rt := none) pd3 rfl rfl rfl rfl (swS cat1 sw0) (by decide) (by decide) (by decide) (by decide) at_310 rfl ?_
        intro v143 T143 h143 w143 q143
        obtain ⟨rfl, K143, S143⟩ := q143
        exact hJ137 _ _ (w143.more (by decide) (by decide)) ((Keep.refl _ [b136]).trans K143 (allS (Or.inl (List.mem_cons_self ..)) all0)) (cn138.symm ▸ S143)
      · skip
        have K12_13_145 : Keep h135 h136 [] := K136
        have F144 : Arv Z h136 b104 kc104 .char n_100 (cs135.map Value.int) (.int 0) := A135.keep K12_13_145 nin0
        have F146 : Fld Z h136 b136 "java/lang/String" "value" "[B" .null := D136 (Or.inr (tw4 G)) (ty := (.array .byte)) (by decide)
        have F147 : Fld Z h136 b136 "java/lang/String" "coder" "B" (.int (0 : Int32)) := D136 (Or.inr (tw5 G)) (ty := .byte) (by decide)
        have l10_138 : cs135.length ≤ 10 := (hm135).symm ▸ cap10 f100
        refine wStrNew (pc' := 313) (w136.more (cells' := 4) (slots' := 54) (by decide) (by decide)) (strw G) (tw2 G) (tw53 G) (tw54 G) (cs := cs135) cs135.length (List.mem_cons_self ..) (Nat.le_trans w135.old.1 (Nat.le_of_eq g136.symm)) E136 F146 F147 F144 (cst G).1 (cst G).2 rfl (toN f100 hm135) (Nat.pos_of_ne_zero hs138) (by omega) hb135 [(.ref b136)] rfl (swS cat1 sw0) (by decide) (by decide) (by decide) (le_slots (by decide) l10_138) at_310 rfl ?_
        intro T148 h148 w148 K148 S148
        have v148 := w148.more (cells' := 5) (slots' := 64) (by decide) (Nat.add_le_add_left l10_138 _)
        exact hJ137 _ _ (v148.more (by decide) (by decide)) ((Keep.refl _ [b136]).trans K148 (allS (Or.inl (List.mem_cons_self ..)) all0)) S148
    intro T137 h137 w137 K137 f137
    refine gAstore (pc' := 315) w137 at_313 rfl rfl (Ls' := #[.val (.int p0), .val (.int p1), .val (.int p2), .val (.int p3), .val (.int x_1), .val (.ref L95), .val (.int x_97), .val (.int ((XT.ushr p0 (2 : Int32)) &&& (3 : Int32))), .val (.int (9 : Int32)), .val (.int n_100), .val (.int ((p1 &&& (2147483647 : Int32)) % (10 : Int32))), .val (.int (p2 &&& (255 : Int32))), .val (.int (p3 &&& (255 : Int32))), .val (.ref b104), .val (.ref b136), .unset, .unset]) rfl ?_
    refine gAload (pc' := 317) w137 at_315 rfl rfl rfl ?_
    refine wStrLen (pc' := 320) w137 (strlenw G) (tw2 G) (tw8 G) (tw9 G) (tw11 G) (tw10 G) f137 (cst G).1 (cst G).2 [] rfl sw0 (by decide) (by decide) (by decide) (by decide) at_317 rfl ?_
    intro T149 z149 w149 e149
    refine gBipush (pc' := 322) w149 at_320 rfl (z := (9 : Int32)) rfl ?_
    suffices hJ150 : ∀ (T150 : State) (h150 : Heap) (x_150 : Int32), Wk false EL1 Z a0 "com/example/countersign/countersign/CommandLogIsSwitchPinLaw" code maxLocals ret "law" p l e room_1 s m #[(.int p0), (.int p1), (.int p2), (.int p3)] below meth c T150 h150 [b136] 8 64 → Keep h137 h150 [] → ((x_150 = 1 ∧ cs135 = ([45, 45, 118, 101, 114, 98, 111, 115, 101] : List Int32)) ∨ (x_150 = 0 ∧ ¬ cs135 = ([45, 45, 118, 101, 114, 98, 111, 115, 101] : List Int32))) → Go p e below (Pst false EL1 Z s room_1 (fun v h sf => v = some (.int (1 : Int32)))) (T150.setTop (mkF m 432 #[.val (.int p0), .val (.int p1), .val (.int p2), .val (.int p3), .val (.int x_1), .val (.ref L95), .val (.int x_97), .val (.int ((XT.ushr p0 (2 : Int32)) &&& (3 : Int32))), .val (.int (9 : Int32)), .val (.int n_100), .val (.int ((p1 &&& (2147483647 : Int32)) % (10 : Int32))), .val (.int (p2 &&& (255 : Int32))), .val (.int (p3 &&& (255 : Int32))), .val (.ref b104), .val (.ref b136), .unset, .unset] [(.int x_150)])) by
      by_cases hc322_151 : z149 = (9 : Int32)
      · skip
        refine gIcN (pc' := 325) w149 at_322 (teq hc322_151).2 rfl ?_
        have hn152 : cs135.length = 9 := eq32 f137.len (k := 9) (by decide) (e149.symm.trans hc322_151)
        refine gAload (pc' := 327) w149 at_325 rfl rfl rfl ?_
        refine gIconst (pc' := 328) w149 at_327 rfl (z := (0 : Int32)) rfl ?_
        refine wStrChr (pc' := 331) w149 (strchrw G) (tw2 G) (tw30 G) (tw31 G) (tw33 G) (tw32 G) f137 (i := 0) hb135.hi (fmt G).1 (fmt G).2 (by rw [hn152]; decide) rfl (cst G).1 (cst G).2 [] rfl sw0 (by decide) (by decide) (by decide) (by decide) at_328 rfl ?_
        intro T153 z153 w153 e153
        refine gBipush (pc' := 333) w153 at_331 rfl (z := (45 : Int32)) rfl ?_
        by_cases hc333_154 : z153 = (45 : Int32)
        · skip
          refine gIcN (pc' := 336) w153 at_333 (teq hc333_154).2 rfl ?_
          refine gAload (pc' := 338) w153 at_336 rfl rfl rfl ?_
          refine gIconst (pc' := 339) w153 at_338 rfl (z := (1 : Int32)) rfl ?_
          refine wStrChr (pc' := 342) w153 (strchrw G) (tw2 G) (tw30 G) (tw31 G) (tw33 G) (tw32 G) f137 (i := 1) hb135.hi (fmt G).1 (fmt G).2 (by rw [hn152]; decide) rfl (cst G).1 (cst G).2 [] rfl sw0 (by decide) (by decide) (by decide) (by decide) at_339 rfl ?_
          intro T155 z155 w155 e155
          refine gBipush (pc' := 344) w155 at_342 rfl (z := (45 : Int32)) rfl ?_
          by_cases hc344_156 : z155 = (45 : Int32)
          · skip
            refine gIcN (pc' := 347) w155 at_344 (teq hc344_156).2 rfl ?_
            refine gAload (pc' := 349) w155 at_347 rfl rfl rfl ?_
            refine gIconst (pc' := 350) w155 at_349 rfl (z := (2 : Int32)) rfl ?_
            refine wStrChr (pc' := 353) w155 (strchrw G) (tw2 G) (tw30 G) (tw31 G) (tw33 G) (tw32 G) f137 (i := 2) hb135.hi (fmt G).1 (fmt G).2 (by rw [hn152]; decide) rfl (cst G).1 (cst G).2 [] rfl sw0 (by decide) (by decide) (by decide) (by decide) at_350 rfl ?_
            intro T157 z157 w157 e157
            refine gBipush (pc' := 355) w157 at_353 rfl (z := (118 : Int32)) rfl ?_
            by_cases hc355_158 : z157 = (118 : Int32)
            · skip
              refine gIcN (pc' := 358) w157 at_355 (teq hc355_158).2 rfl ?_
              refine gAload (pc' := 360) w157 at_358 rfl rfl rfl ?_
              refine gIconst (pc' := 361) w157 at_360 rfl (z := (3 : Int32)) rfl ?_
              refine wStrChr (pc' := 364) w157 (strchrw G) (tw2 G) (tw30 G) (tw31 G) (tw33 G) (tw32 G) f137 (i := 3) hb135.hi (fmt G).1 (fmt G).2 (by rw [hn152]; decide) rfl (cst G).1 (cst G).2 [] rfl sw0 (by decide) (by decide) (by decide) (by decide) at_361 rfl ?_
              intro T159 z159 w159 e159
              refine gBipush (pc' := 366) w159 at_364 rfl (z := (101 : Int32)) rfl ?_
              by_cases hc366_160 : z159 = (101 : Int32)
              · skip
                refine gIcN (pc' := 369) w159 at_366 (teq hc366_160).2 rfl ?_
                refine gAload (pc' := 371) w159 at_369 rfl rfl rfl ?_
                refine gIconst (pc' := 372) w159 at_371 rfl (z := (4 : Int32)) rfl ?_
                refine wStrChr (pc' := 375) w159 (strchrw G) (tw2 G) (tw30 G) (tw31 G) (tw33 G) (tw32 G) f137 (i := 4) hb135.hi (fmt G).1 (fmt G).2 (by rw [hn152]; decide) rfl (cst G).1 (cst G).2 [] rfl sw0 (by decide) (by decide) (by decide) (by decide) at_372 rfl ?_
                intro T161 z161 w161 e161
                refine gBipush (pc' := 377) w161 at_375 rfl (z := (114 : Int32)) rfl ?_
                by_cases hc377_162 : z161 = (114 : Int32)
                · skip
                  refine gIcN (pc' := 380) w161 at_377 (teq hc377_162).2 rfl ?_
                  refine gAload (pc' := 382) w161 at_380 rfl rfl rfl ?_
                  refine gIconst (pc' := 383) w161 at_382 rfl (z := (5 : Int32)) rfl ?_
                  refine wStrChr (pc' := 386) w161 (strchrw G) (tw2 G) (tw30 G) (tw31 G) (tw33 G) (tw32 G) f137 (i := 5) hb135.hi (fmt G).1 (fmt G).2 (by rw [hn152]; decide) rfl (cst G).1 (cst G).2 [] rfl sw0 (by decide) (by decide) (by decide) (by decide) at_383 rfl ?_
                  intro T163 z163 w163 e163
                  refine gBipush (pc' := 388) w163 at_386 rfl (z := (98 : Int32)) rfl ?_
                  by_cases hc388_164 : z163 = (98 : Int32)
                  · skip
                    refine gIcN (pc' := 391) w163 at_388 (teq hc388_164).2 rfl ?_
                    refine gAload (pc' := 393) w163 at_391 rfl rfl rfl ?_
                    refine gBipush (pc' := 395) w163 at_393 rfl (z := (6 : Int32)) rfl ?_
                    refine wStrChr (pc' := 398) w163 (strchrw G) (tw2 G) (tw30 G) (tw31 G) (tw33 G) (tw32 G) f137 (i := 6) hb135.hi (fmt G).1 (fmt G).2 (by rw [hn152]; decide) rfl (cst G).1 (cst G).2 [] rfl sw0 (by decide) (by decide) (by decide) (by decide) at_395 rfl ?_
                    intro T165 z165 w165 e165
                    refine gBipush (pc' := 400) w165 at_398 rfl (z := (111 : Int32)) rfl ?_
                    by_cases hc400_166 : z165 = (111 : Int32)
                    · skip
                      refine gIcN (pc' := 403) w165 at_400 (teq hc400_166).2 rfl ?_
                      refine gAload (pc' := 405) w165 at_403 rfl rfl rfl ?_
                      refine gBipush (pc' := 407) w165 at_405 rfl (z := (7 : Int32)) rfl ?_
                      refine wStrChr (pc' := 410) w165 (strchrw G) (tw2 G) (tw30 G) (tw31 G) (tw33 G) (tw32 G) f137 (i := 7) hb135.hi (fmt G).1 (fmt G).2 (by rw [hn152]; decide) rfl (cst G).1 (cst G).2 [] rfl sw0 (by decide) (by decide) (by decide) (by decide) at_407 rfl ?_
                      intro T167 z167 w167 e167
                      refine gBipush (pc' := 412) w167 at_410 rfl (z := (115 : Int32)) rfl ?_
                      by_cases hc412_168 : z167 = (115 : Int32)
                      · skip
                        refine gIcN (pc' := 415) w167 at_412 (teq hc412_168).2 rfl ?_
                        refine gAload (pc' := 417) w167 at_415 rfl rfl rfl ?_
                        refine gBipush (pc' := 419) w167 at_417 rfl (z := (8 : Int32)) rfl ?_
                        refine wStrChr (pc' := 422) w167 (strchrw G) (tw2 G) (tw30 G) (tw31 G) (tw33 G) (tw32 G) f137 (i := 8) hb135.hi (fmt G).1 (fmt G).2 (by rw [hn152]; decide) rfl (cst G).1 (cst G).2 [] rfl sw0 (by decide) (by decide) (by decide) (by decide) at_419 rfl ?_
                        intro T169 z169 w169 e169
                        refine gBipush (pc' := 424) w169 at_422 rfl (z := (101 : Int32)) rfl ?_
                        by_cases hc424_170 : z169 = (101 : Int32)
                        · skip
                          refine gIcN (pc' := 427) w169 at_424 (teq hc424_170).2 rfl ?_
                          refine gIconst (pc' := 428) w169 at_427 rfl (z := (1 : Int32)) rfl ?_
                          refine gGoto (pc' := 432) w169 at_428 (by decide) (by decide) ?_
                          exact hJ150 _ _ (1 : Int32) w169 (Keep.refl _ []) (Or.inl ⟨rfl, is9 hn152 (e153.symm.trans hc333_154) (e155.symm.trans hc344_156) (e157.symm.trans hc355_158) (e159.symm.trans hc366_160) (e161.symm.trans hc377_162) (e163.symm.trans hc388_164) (e165.symm.trans hc400_166) (e167.symm.trans hc412_168) (e169.symm.trans hc424_170)⟩)
                        · skip
                          refine gIcY (pc' := 431) w169 at_424 (feq hc424_170).2 (by decide) (by decide) ?_
                          refine gIconst (pc' := 432) w169 at_431 rfl (z := (0 : Int32)) rfl ?_
                          exact hJ150 _ _ (0 : Int32) w169 (Keep.refl _ []) (Or.inr ⟨rfl, fun q => hc424_170 (by rw [e169, q]; rfl)⟩)
                      · skip
                        refine gIcY (pc' := 431) w167 at_412 (feq hc412_168).2 (by decide) (by decide) ?_
                        refine gIconst (pc' := 432) w167 at_431 rfl (z := (0 : Int32)) rfl ?_
                        exact hJ150 _ _ (0 : Int32) w167 (Keep.refl _ []) (Or.inr ⟨rfl, fun q => hc412_168 (by rw [e167, q]; rfl)⟩)
                    · skip
                      refine gIcY (pc' := 431) w165 at_400 (feq hc400_166).2 (by decide) (by decide) ?_
                      refine gIconst (pc' := 432) w165 at_431 rfl (z := (0 : Int32)) rfl ?_
                      exact hJ150 _ _ (0 : Int32) w165 (Keep.refl _ []) (Or.inr ⟨rfl, fun q => hc400_166 (by rw [e165, q]; rfl)⟩)
                  · skip
                    refine gIcY (pc' := 431) w163 at_388 (feq hc388_164).2 (by decide) (by decide) ?_
                    refine gIconst (pc' := 432) w163 at_431 rfl (z := (0 : Int32)) rfl ?_
                    exact hJ150 _ _ (0 : Int32) w163 (Keep.refl _ []) (Or.inr ⟨rfl, fun q => hc388_164 (by rw [e163, q]; rfl)⟩)
                · skip
                  refine gIcY (pc' := 431) w161 at_377 (feq hc377_162).2 (by decide) (by decide) ?_
                  refine gIconst (pc' := 432) w161 at_431 rfl (z := (0 : Int32)) rfl ?_
                  exact hJ150 _ _ (0 : Int32) w161 (Keep.refl _ []) (Or.inr ⟨rfl, fun q => hc377_162 (by rw [e161, q]; rfl)⟩)
              · skip
                refine gIcY (pc' := 431) w159 at_366 (feq hc366_160).2 (by decide) (by decide) ?_
                refine gIconst (pc' := 432) w159 at_431 rfl (z := (0 : Int32)) rfl ?_
                exact hJ150 _ _ (0 : Int32) w159 (Keep.refl _ []) (Or.inr ⟨rfl, fun q => hc366_160 (by rw [e159, q]; rfl)⟩)
            · skip
              refine gIcY (pc' := 431) w157 at_355 (feq hc355_158).2 (by decide) (by decide) ?_
              refine gIconst (pc' := 432) w157 at_431 rfl (z := (0 : Int32)) rfl ?_
              exact hJ150 _ _ (0 : Int32) w157 (Keep.refl _ []) (Or.inr ⟨rfl, fun q => hc355_158 (by rw [e157, q]; rfl)⟩)
          · skip
            refine gIcY (pc' := 431) w155 at_344 (feq hc344_156).2 (by decide) (by decide) ?_
            refine gIconst (pc' := 432) w155 at_431 rfl (z := (0 : Int32)) rfl ?_
            exact hJ150 _ _ (0 : Int32) w155 (Keep.refl _ []) (Or.inr ⟨rfl, fun q => hc344_156 (by rw [e155, q]; rfl)⟩)
        · skip
          refine gIcY (pc' := 431) w153 at_333 (feq hc333_154).2 (by decide) (by decide) ?_
          refine gIconst (pc' := 432) w153 at_431 rfl (z := (0 : Int32)) rfl ?_
          exact hJ150 _ _ (0 : Int32) w153 (Keep.refl _ []) (Or.inr ⟨rfl, fun q => hc333_154 (by rw [e153, q]; rfl)⟩)
      · skip
        refine gIcY (pc' := 431) w149 at_322 (feq hc322_151).2 (by decide) (by decide) ?_
        refine gIconst (pc' := 432) w149 at_431 rfl (z := (0 : Int32)) rfl ?_
        exact hJ150 _ _ (0 : Int32) w149 (Keep.refl _ []) (Or.inr ⟨rfl, fun q => hc322_151 (by rw [e149, q]; rfl)⟩)
    intro T150 h150 x_150 w150 K150 f150
    refine gIstore (pc' := 434) w150 at_432 rfl (Ls' := #[.val (.int p0), .val (.int p1), .val (.int p2), .val (.int p3), .val (.int x_1), .val (.ref L95), .val (.int x_97), .val (.int ((XT.ushr p0 (2 : Int32)) &&& (3 : Int32))), .val (.int (9 : Int32)), .val (.int n_100), .val (.int ((p1 &&& (2147483647 : Int32)) % (10 : Int32))), .val (.int (p2 &&& (255 : Int32))), .val (.int (p3 &&& (255 : Int32))), .val (.ref b104), .val (.ref b136), .val (.int x_150), .unset]) rfl ?_
    refine gAload (pc' := 436) w150 at_434 rfl rfl rfl ?_
    have K14_15_172 : Keep h137 h150 [] := K150
    have F171 : Str Z h150 b136 cs135 := f137.keep K14_15_172
    refine wStrLen (pc' := 439) w150 (strlenw G) (tw2 G) (tw8 G) (tw9 G) (tw11 G) (tw10 G) F171 (cst G).1 (cst G).2 [] rfl sw0 (by decide) (by decide) (by decide) (by decide) at_436 rfl ?_
    intro T173 z173 w173 e173
    refine gIconst (pc' := 440) w173 at_439 rfl (z := (2 : Int32)) rfl ?_
    suffices hJ174 : ∀ (T174 : State) (h174 : Heap) (x_174 : Int32), Wk false EL1 Z a0 "com/example/countersign/countersign/CommandLogIsSwitchPinLaw" code maxLocals ret "law" p l e room_1 s m #[(.int p0), (.int p1), (.int p2), (.int p3)] below meth c T174 h174 [b136] 8 64 → Keep h150 h174 [] → ((x_174 = 1 ∧ cs135 = ([45, 118] : List Int32)) ∨ (x_174 = 0 ∧ ¬ cs135 = ([45, 118] : List Int32))) → Go p e below (Pst false EL1 Z s room_1 (fun v h sf => v = some (.int (1 : Int32)))) (T174.setTop (mkF m 470 #[.val (.int p0), .val (.int p1), .val (.int p2), .val (.int p3), .val (.int x_1), .val (.ref L95), .val (.int x_97), .val (.int ((XT.ushr p0 (2 : Int32)) &&& (3 : Int32))), .val (.int (9 : Int32)), .val (.int n_100), .val (.int ((p1 &&& (2147483647 : Int32)) % (10 : Int32))), .val (.int (p2 &&& (255 : Int32))), .val (.int (p3 &&& (255 : Int32))), .val (.ref b104), .val (.ref b136), .val (.int x_150), .unset] [(.int x_174)])) by
      by_cases hc440_175 : z173 = (2 : Int32)
      · skip
        refine gIcN (pc' := 443) w173 at_440 (teq hc440_175).2 rfl ?_
        have hn176 : cs135.length = 2 := eq32 F171.len (k := 2) (by decide) (e173.symm.trans hc440_175)
        refine gAload (pc' := 445) w173 at_443 rfl rfl rfl ?_
        refine gIconst (pc' := 446) w173 at_445 rfl (z := (0 : Int32)) rfl ?_
        refine wStrChr (pc' := 449) w173 (strchrw G) (tw2 G) (tw30 G) (tw31 G) (tw33 G) (tw32 G) F171 (i := 0) hb135.hi (fmt G).1 (fmt G).2 (by rw [hn176]; decide) rfl (cst G).1 (cst G).2 [] rfl sw0 (by decide) (by decide) (by decide) (by decide) at_446 rfl ?_
        intro T177 z177 w177 e177
        refine gBipush (pc' := 451) w177 at_449 rfl (z := (45 : Int32)) rfl ?_
        by_cases hc451_178 : z177 = (45 : Int32)
        · skip
          refine gIcN (pc' := 454) w177 at_451 (teq hc451_178).2 rfl ?_
          refine gAload (pc' := 456) w177 at_454 rfl rfl rfl ?_
          refine gIconst (pc' := 457) w177 at_456 rfl (z := (1 : Int32)) rfl ?_
          refine wStrChr (pc' := 460) w177 (strchrw G) (tw2 G) (tw30 G) (tw31 G) (tw33 G) (tw32 G) F171 (i := 1) hb135.hi (fmt G).1 (fmt G).2 (by rw [hn176]; decide) rfl (cst G).1 (cst G).2 [] rfl sw0 (by decide) (by decide) (by decide) (by decide) at_457 rfl ?_
          intro T179 z179 w179 e179
          refine gBipush (pc' := 462) w179 at_460 rfl (z := (118 : Int32)) rfl ?_
          by_cases hc462_180 : z179 = (118 : Int32)
          · skip
            refine gIcN (pc' := 465) w179 at_462 (teq hc462_180).2 rfl ?_
            refine gIconst (pc' := 466) w179 at_465 rfl (z := (1 : Int32)) rfl ?_
            refine gGoto (pc' := 470) w179 at_466 (by decide) (by decide) ?_
            exact hJ174 _ _ (1 : Int32) w179 (Keep.refl _ []) (Or.inl ⟨rfl, is2 hn176 (e177.symm.trans hc451_178) (e179.symm.trans hc462_180)⟩)
          · skip
            refine gIcY (pc' := 469) w179 at_462 (feq hc462_180).2 (by decide) (by decide) ?_
            refine gIconst (pc' := 470) w179 at_469 rfl (z := (0 : Int32)) rfl ?_
            exact hJ174 _ _ (0 : Int32) w179 (Keep.refl _ []) (Or.inr ⟨rfl, fun q => hc462_180 (by rw [e179, q]; rfl)⟩)
        · skip
          refine gIcY (pc' := 469) w177 at_451 (feq hc451_178).2 (by decide) (by decide) ?_
          refine gIconst (pc' := 470) w177 at_469 rfl (z := (0 : Int32)) rfl ?_
          exact hJ174 _ _ (0 : Int32) w177 (Keep.refl _ []) (Or.inr ⟨rfl, fun q => hc451_178 (by rw [e177, q]; rfl)⟩)
      · skip
        refine gIcY (pc' := 469) w173 at_440 (feq hc440_175).2 (by decide) (by decide) ?_
        refine gIconst (pc' := 470) w173 at_469 rfl (z := (0 : Int32)) rfl ?_
        exact hJ174 _ _ (0 : Int32) w173 (Keep.refl _ []) (Or.inr ⟨rfl, fun q => hc440_175 (by rw [e173, q]; rfl)⟩)
    intro T174 h174 x_174 w174 K174 f174
    refine gIstore (pc' := 472) w174 at_470 rfl (Ls' := #[.val (.int p0), .val (.int p1), .val (.int p2), .val (.int p3), .val (.int x_1), .val (.ref L95), .val (.int x_97), .val (.int ((XT.ushr p0 (2 : Int32)) &&& (3 : Int32))), .val (.int (9 : Int32)), .val (.int n_100), .val (.int ((p1 &&& (2147483647 : Int32)) % (10 : Int32))), .val (.int (p2 &&& (255 : Int32))), .val (.int (p3 &&& (255 : Int32))), .val (.ref b104), .val (.ref b136), .val (.int x_150), .val (.int x_174)]) rfl ?_
    refine gAload (pc' := 474) w174 at_472 rfl rfl rfl ?_
    have K15_16_182 : Keep h150 h174 [] := K174
    have F181 : Str Z h174 b136 cs135 := F171.keep K15_16_182
    refine wCallS (pc' := 477) w174 (c16 G l w174.old b136 cs135 F181) (fun q => q) (fun _ q => nomatch q) (tw73 G) (tw74 G) (tw75 G) (tw76 G) (by decide) [(.ref b136)] [] (ps := [(.object "java/lang/String")]) (rt := some .boolean) pd4 rfl rfl rfl rfl sw0 (by decide) (by decide) (by decide) (by decide) at_474 rfl ?_
    intro v183 T183 h183 w183 q183
    obtain ⟨z183, rfl, K183, hz183⟩ := q183
    refine gIload (pc' := 479) w183 at_477 rfl rfl ?_
    by_cases hc479_184 : x_150 = (0 : Int32)
    · skip
      refine gIfN (pc' := 482) w183 at_479 (teq hc479_184).2 rfl ?_
      refine gIload (pc' := 484) w183 at_482 rfl rfl ?_
      by_cases hc484_185 : x_174 = (0 : Int32)
      · skip
        refine gIfY (pc' := 491) w183 at_484 (teq hc484_185).1 (by decide) (by decide) ?_
        refine gIconst (pc' := 492) w183 at_491 rfl (z := (0 : Int32)) rfl ?_
        refine gIcN (pc' := 495) w183 at_492 (teq (is0 hz183 (fun q => q.elim (eqF f150 hc479_184) (eqF f174 hc484_185)))).2 rfl ?_
        refine gIconst (pc' := 496) w183 at_495 rfl (z := (1 : Int32)) rfl ?_
        refine gGoto (pc' := 500) w183 at_496 (by decide) (by decide) ?_
        refine wRetZ w183 at_500 (Or.inr rfl) (by decide) (by decide) ?_
        exact rfl
      · skip
        refine gIfN (pc' := 487) w183 at_484 (feq hc484_185).1 rfl ?_
        refine gIconst (pc' := 488) w183 at_487 rfl (z := (1 : Int32)) rfl ?_
        refine gGoto (pc' := 492) w183 at_488 (by decide) (by decide) ?_
        refine gIcN (pc' := 495) w183 at_492 (teq (is1 hz183 (Or.inr (eqT f174 hc484_185)))).2 rfl ?_
        refine gIconst (pc' := 496) w183 at_495 rfl (z := (1 : Int32)) rfl ?_
        refine gGoto (pc' := 500) w183 at_496 (by decide) (by decide) ?_
        refine wRetZ w183 at_500 (Or.inr rfl) (by decide) (by decide) ?_
        exact rfl
    · skip
      refine gIfY (pc' := 487) w183 at_479 (feq hc479_184).2 (by decide) (by decide) ?_
      refine gIconst (pc' := 488) w183 at_487 rfl (z := (1 : Int32)) rfl ?_
      refine gGoto (pc' := 492) w183 at_488 (by decide) (by decide) ?_
      refine gIcN (pc' := 495) w183 at_492 (teq (is1 hz183 (Or.inl (eqT f150 hc479_184)))).2 rfl ?_
      refine gIconst (pc' := 496) w183 at_495 rfl (z := (1 : Int32)) rfl ?_
      refine gGoto (pc' := 500) w183 at_496 (by decide) (by decide) ?_
      refine wRetZ w183 at_500 (Or.inr rfl) (by decide) (by decide) ?_
      exact rfl
theorem tw3 {Z : State} {a0 : Array Value} {cz : Int32} {fm : Value} (G : Gl Z a0 cz fm) : (Jvm.Cond.arrayClass Jvm.ClassFile.FieldType.byte).before a0 Z = true := G.1 _ (List.mem_of_getElem? (i := 3) rfl)
set_option maxRecDepth 65536 in
set_option maxHeartbeats 40000000 in
theorem comes_1 {Post : Tables → Env → Array Value → State → Outcome → State → Prop} (hpost : ∀ tb e args s v u, (limb_1_1.after args s (.returned v) u = true ∧ limb_1_2.after args s (.returned v) u = true ∧ True) → ReturnedEndW s (.returned v) u (Jvm.fieldLocs frame_1_writes args s ++ Jvm.arrayLocs frame_1_arrays args s ++ Jvm.staticLocs frame_1_statics s) 24 5312 → Post tb e args s (.returned v) u) :
    Jvm.D.ArmFor flags0 classFile x code maxLocals ret World_1 tables_1 room_1 Calls_1 rest_1 Pre_1 Post := by
  intro l hfl _ _ p e ha hc hk s m args below hf hA hF happ hP
  obtain ⟨hcalls, hrest, hpre⟩ := hP
  obtain ⟨-, -, -, hnamed, -, -, -, hat⟩ := (Spec.applies_iff hf).mp happ
  obtain ⟨hg, hn⟩ := and_e (Cond.before_iff.mp (show (Jvm.Cond.and given_1 narrow_1).before args s = true from hpre))
  obtain ⟨hcnt, g1⟩ := and_e hg
  obtain ⟨k1, g2⟩ := and_e g1
  obtain ⟨k2, g3⟩ := and_e g2
  obtain ⟨k3, g4⟩ := and_e g3
  have k4 := g4
  obtain ⟨u0, u1, u2, u3, rfl⟩ : ∃ u0 u1 u2 u3 : Value, args = #[u0, u1, u2, u3] := by
    have hs : args.size = 4 := by simpa [Cond.value, given_1] using hcnt
    obtain ⟨L⟩ := args
    match L, hs with
    | [u0, u1, u2, u3], _ => exact ⟨u0, u1, u2, u3, rfl⟩
  obtain ⟨i0, e0⟩ := is_v k1
  obtain rfl : u0 = (.int i0) := Option.some.inj e0
  obtain ⟨i1, e1⟩ := is_v k2
  obtain rfl : u1 = (.int i1) := Option.some.inj e1
  obtain ⟨i2, e2⟩ := is_v k3
  obtain rfl : u2 = (.int i2) := Option.some.inj e2
  obtain ⟨i3, e3⟩ := is_v k4
  obtain rfl : u3 = (.int i3) := Option.some.inj e3
  have hw := fun d (hd : d ∈ tables_1) => atoms_spec (ws := Jvm.Cond.code x code maxLocals ret :: tables_1) hat d (List.mem_cons_of_mem _ hd)
  obtain ⟨hsets, hown0⟩ := atoms_of _ (rest_1_c_eq ▸ (show rest_1_c.before _ s = true from hrest))
  have hfit : Fit s := fun {y c} hc i hi => by
    obtain ⟨ha, rfl⟩ := Array.getElem?_eq_some_iff.mp hc
    have q := List.all_eq_true.mp ((Array.all_eq_true_iff_forall_mem.mp hF) _ (Array.getElem_mem ha)) i (List.mem_range.mpr hi)
    simpa [Array.getElem?_eq_getElem hi] using q
  have nz := not_v (Cond.before_iff.mp (hsets _ (List.mem_of_getElem? (i := 2) rfl)))
  obtain ⟨cz0, ecz⟩ := is_v (Cond.before_iff.mp (hsets _ (List.mem_of_getElem? (i := 1) rfl)))
  have Scz : Sta s s.heap "java/lang/String" "COMPACT_STRINGS" "Z" (.int cz0) := Sta.start ecz (Or.inl (hsets _ (List.mem_of_getElem? (i := 0) rfl)))
  have hcz : ¬ (cz0 = (0 : Int32)) := gotF (Cond.eq_ints ecz (Term.int_eval (0))) nz
  obtain ⟨fm, efm, rfm⟩ := isR_v (Cond.before_iff.mp (hsets _ (List.mem_of_getElem? (i := 8) rfl)))
  have Sfm := Sta.start efm (Or.inl (hsets _ (List.mem_of_getElem? (i := 7) rfl)))
  have G : Gl s #[(.int i0), (.int i1), (.int i2), (.int i3)] cz0 fm := ⟨hw, ⟨Scz, hcz⟩, ⟨Sfm, rfm⟩, trivial⟩
  have O0 : Ext s.heap s.heap := ⟨Nat.le_refl _, fun _ _ q => q⟩
  have H0 : CHv s EL1 s.vm s.heap := CHv.start (elw G) (fun p hp => hcalls.1 p ((by decide : ∀ p ∈ EL1, p ∈ consts_1) p hp)) (hsets _ (List.mem_of_getElem? (i := 2) rfl)) (tw3 G) (tw2 G)
  obtain ⟨n, o, h1, h2, h3, _, L, rfl, rfl, N, -, -, hq⟩ := c0 G l O0 i0 i1 i2 i3 tables_1 p e ha hc hk s m _ below hf ((Spec.applies_iff_loose hf).mp happ).1 ⟨rfl, State.Warmed39.refl s, rfl, H0, (fun _ q => nomatch q)⟩ trivial
  refine ⟨n, _, h1, h2, h3, hpost _ _ _ _ _ _ ⟨Cond.after_iff.mpr rfl, Cond.after_iff.mpr (eq_i res_at (Term.int_eval (1)) rfl), trivial⟩ ⟨hq.1.1, hq.1.2.1, hq.1.2.2.1, (hq.1.2.2.2.sift fun y hy => Or.inr (N y hy)).mono (by decide) (by decide)⟩⟩
theorem main_1_1 : Claimed_1_1 := comes_1 fun _ _ _ _ _ _ h hF => ⟨h.1, hF⟩
theorem main_1_2 : Claimed_1_2 := comes_1 fun _ _ _ _ _ _ h hF => ⟨h.2.1, hF⟩
end Jvm.Pilot.@@N@@
namespace Jvm.Pilot.@@N@@
open Jvm Jvm.ClassFile Sem Op Lib Jvm.Free Jvm.Stand Jvm.Pilot.@@N@@.Jvm.D
/-! MADE BY PROGRAM (witnessworld.py) out of the Statement's table words and the real class files: 20 classes; the members and pool entries that the words name. The judged class is class 1, her method 3. -/
namespace start1
open Jvm.ClassFile
def u (s : String) : CpInfo := .utf8 (stringToUtf16 s)
/-- a pool by its gaps: so many unusable entries, then the entry; so many at the end -/
def gap : Nat → List CpInfo → List CpInfo
  | 0, r => r
  | n + 1, r => .unusable :: gap n r
def poolList (es : List (Nat × CpInfo)) (last : Nat) : List CpInfo := es.foldr (fun e r => gap e.1 (e.2 :: r)) (gap last [])
def pool (es : List (Nat × CpInfo)) (last : Nat) : Array CpInfo := ⟨poolList es last⟩
def fileOf (pool : Array CpInfo) (this : Nat) (attrs : Array Attribute := #[]) (ms : Array MethodInfo := #[]) (fl : Nat := 33) (sup : Nat := 0) (ifs : Array Nat := #[]) (fds : Array FieldInfo := #[]) : ClassFile where
  minorVersion := 0
  majorVersion := 65
  constantPool := pool
  accessFlags := fl
  thisClass := this
  superClass := sup
  interfaces := ifs
  fields := fds
  methods := ms
  attributes := attrs
def plain (name : String) (sup : Option ClassId) : Class where
  name := name
  kind := .ordinary
  loader := none
  accessFlags := 33
  super := sup
  interfaces := #[]
  cf := none
  fields := #[]
  methods := #[]
  instanceTypes := #[]
  staticTypes := #[]
  resolved := #[]
  callSites := []
  init := .initialized
  statics := none
  mirror := none

def pool0 : Array CpInfo := pool [(5, u "<init>"), (0, u "()V"), (1, .class_ 10), (1, u "java/lang/Object")] 113

def k0c0 : Code := { maxStack := 0, maxLocals := 1, code := object_method_1_code, exceptionTable := #[], attributes := #[] }
def k0m0 : Method := { name := "<init>", desc := "()V", sig := { parameters := [], returnType := none }, accessFlags := 1, code := some k0c0 }
/-- java/lang/Object -/
def k0 : Class := { plain "java/lang/Object" none with
  accessFlags := 33
  interfaces := #[]
  cf := some (fileOf pool0 8 #[] #[{ accessFlags := 1, nameIndex := 5, descriptorIndex := 6, attributes := #[] }] 33 0 #[] #[])
  fields := #[]
  methods := #[k0m0]
  instanceTypes := #[]
  staticTypes := #[]
  resolved := Array.replicate 124 none
  statics := none }

def pool1 : Array CpInfo := pool [(2, .class_ 4), (1, u "java/lang/Object"), (0, u "<init>"), (0, u "()V"), (0, .methodref 8 9), (0, .class_ 10), (0, .nameAndType 11 12), (0, u "java/lang/String"), (0, u "length"), (0, u "()I"), (0, .methodref 8 14), (0, .nameAndType 15 16), (0, u "charAt"), (0, u "(I)C"), (0, .methodref 18 19), (0, .class_ 20), (0, .nameAndType 21 22), (0, u "com/example/countersign/countersign/CommandLogIsSwitchPinLaw"), (0, u "at"), (0, u "(Ljava/lang/String;IC)C"), (0, .string 24), (0, u "--verbose"), (0, .string 26), (0, u "-v"), (0, .integer 2147483647), (0, .methodref 18 29), (0, .nameAndType 30 31), (0, u "put"), (0, u "([CILjava/lang/String;CZIC)V"), (0, .methodref 8 33), (0, .nameAndType 5 34), (0, u "([C)V"), (0, .methodref 36 37), (0, .class_ 38), (0, .nameAndType 39 40), (0, u "com/example/countersign/countersign/CommandLog"), (0, u "isSwitch"), (0, u "(Ljava/lang/String;)Z"), (5, u "law"), (0, u "(IIII)Z")] 2

def k1m0 : Method := { name := "<init>", desc := "()V", sig := { parameters := [], returnType := none }, accessFlags := 2, code := none }
def k1c1 : Code := { maxStack := 2, maxLocals := 3, code := method_2_code, exceptionTable := #[], attributes := #[] }
def k1m1 : Method := { name := "at", desc := "(Ljava/lang/String;IC)C", sig := { parameters := [(.object "java/lang/String"), .int, .char], returnType := some .char }, accessFlags := 10, code := some k1c1 }
def k1c2 : Code := { maxStack := 5, maxLocals := 7, code := method_3_code, exceptionTable := #[], attributes := #[] }
def k1m2 : Method := { name := "put", desc := "([CILjava/lang/String;CZIC)V", sig := { parameters := [(.array .char), .int, (.object "java/lang/String"), .char, .boolean, .int, .char], returnType := none }, accessFlags := 10, code := some k1c2 }
def k1c3 : Code := { maxStack := 7, maxLocals := 17, code := code, exceptionTable := #[], attributes := #[] }
def k1m3 : Method := { name := "law", desc := "(IIII)Z", sig := { parameters := [.int, .int, .int, .int], returnType := some .boolean }, accessFlags := 9, code := some k1c3 }
/-- com/example/countersign/countersign/CommandLogIsSwitchPinLaw -/
def k1 : Class := { plain "com/example/countersign/countersign/CommandLogIsSwitchPinLaw" (some 0) with
  accessFlags := 49
  interfaces := #[]
  cf := some (fileOf pool1 18 #[] #[{ accessFlags := 2, nameIndex := 5, descriptorIndex := 6, attributes := #[] }, { accessFlags := 10, nameIndex := 21, descriptorIndex := 22, attributes := #[] }, { accessFlags := 10, nameIndex := 30, descriptorIndex := 31, attributes := #[] }, { accessFlags := 9, nameIndex := 46, descriptorIndex := 47, attributes := #[] }] 49 2 #[] #[])
  fields := #[]
  methods := #[k1m0, k1m1, k1m2, k1m3]
  instanceTypes := #[]
  staticTypes := #[]
  resolved := Array.replicate 50 none
  statics := none }

def pool2 : Array CpInfo := pool [(1, .class_ 2), (0, u "java/io/Serializable"), (0, .class_ 4), (0, u "java/lang/Object")] 2

/-- java/io/Serializable -/
def k2 : Class := { plain "java/io/Serializable" (some 0) with
  accessFlags := 1537
  interfaces := #[]
  cf := some (fileOf pool2 1 #[] #[] 1537 3 #[] #[])
  fields := #[]
  methods := #[]
  instanceTypes := #[]
  staticTypes := #[]
  resolved := Array.replicate 7 none
  statics := none }

def pool3 : Array CpInfo := pool [(1, .class_ 2), (0, u "java/lang/Comparable"), (0, .class_ 4), (0, u "java/lang/Object")] 7

/-- java/lang/Comparable -/
def k3 : Class := { plain "java/lang/Comparable" (some 0) with
  accessFlags := 1537
  interfaces := #[]
  cf := some (fileOf pool3 1 #[] #[] 1537 3 #[] #[])
  fields := #[]
  methods := #[]
  instanceTypes := #[]
  staticTypes := #[]
  resolved := Array.replicate 12 none
  statics := none }

def pool4 : Array CpInfo := pool [(2, .class_ 4), (1, u "java/lang/CharSequence"), (42, .class_ 48), (0, u "java/lang/CharSequence$1CodePointIterator"), (10, .class_ 60), (0, u "java/lang/CharSequence$1CharIterator"), (5, .class_ 67), (0, u "java/lang/Object")] 63

/-- java/lang/CharSequence -/
def k4 : Class := { plain "java/lang/CharSequence" (some 0) with
  accessFlags := 1537
  interfaces := #[]
  cf := some (fileOf pool4 2 #[.nestMembers #[47, 59]] #[] 1537 66 #[] #[])
  fields := #[]
  methods := #[]
  instanceTypes := #[]
  staticTypes := #[]
  resolved := Array.replicate 131 none
  statics := none }

def pool5 : Array CpInfo := pool [(1, .class_ 2), (0, u "java/lang/constant/Constable"), (0, .class_ 4), (0, u "java/lang/Object")] 6

/-- java/lang/constant/Constable -/
def k5 : Class := { plain "java/lang/constant/Constable" (some 0) with
  accessFlags := 1537
  interfaces := #[]
  cf := some (fileOf pool5 1 #[] #[] 1537 3 #[] #[])
  fields := #[]
  methods := #[]
  instanceTypes := #[]
  staticTypes := #[]
  resolved := Array.replicate 11 none
  statics := none }

def pool6 : Array CpInfo := pool [(1, .class_ 2), (0, u "java/lang/constant/ConstantDesc"), (0, .class_ 4), (0, u "java/lang/Object")] 32

/-- java/lang/constant/ConstantDesc -/
def k6 : Class := { plain "java/lang/constant/ConstantDesc" (some 0) with
  accessFlags := 1537
  interfaces := #[]
  cf := some (fileOf pool6 1 #[] #[] 1537 3 #[] #[])
  fields := #[]
  methods := #[]
  instanceTypes := #[]
  staticTypes := #[]
  resolved := Array.replicate 37 none
  statics := none }

def pool7 : Array CpInfo := pool [(1, .methodref 2 3), (0, .class_ 4), (0, .nameAndType 5 6), (0, u "java/lang/Object"), (0, u "<init>"), (0, u "()V"), (0, .string 8), (0, u ""), (0, .fieldref 10 11), (0, .class_ 12), (0, .nameAndType 13 14), (0, u "java/lang/String"), (0, u "value"), (0, u "[B"), (0, .fieldref 10 16), (0, .nameAndType 17 18), (0, u "coder"), (0, u "B"), (2, u "hash"), (0, u "I"), (2, u "hashIsZero"), (0, u "Z"), (0, .methodref 10 28), (0, .nameAndType 5 29), (0, u "([CIILjava/lang/Void;)V"), (8, .fieldref 10 39), (0, .nameAndType 40 26), (0, u "COMPACT_STRINGS"), (1, .class_ 44), (1, u "java/lang/StringUTF16"), (0, u "compress"), (1, .methodref 42 48), (0, .nameAndType 49 50), (0, u "coderFromArrayLen"), (0, u "([BI)B"), (56, .class_ 109), (1, u "java/lang/StringLatin1"), (32, u "()Z"), (34, .methodref 42 178), (0, .nameAndType 45 179), (0, u "([CII)[B"), (154, u "()I"), (0, .methodref 10 336), (0, .nameAndType 17 337), (0, u "()B"), (25, u "([BI)C"), (27, u "(II)V"), (35, u "(I)C"), (64, .methodref 10 493), (0, .nameAndType 494 142), (0, u "isLatin1"), (0, .methodref 107 496), (0, .nameAndType 497 363), (0, u "charAt"), (3, u "checkIndex"), (5, u "length"), (33, .methodref 107 542), (0, .nameAndType 543 544), (0, u "equals"), (0, u "([B[B)Z"), (28, u "(Ljava/lang/Object;)Z"), (1, .class_ 576), (0, u "java/lang/CharSequence"), (22, u "CASE_INSENSITIVE_ORDER"), (0, u "Ljava/util/Comparator;"), (409, u "([C)V"), (42, .fieldref 1054 1055), (0, .class_ 1056), (0, .nameAndType 1057 1058), (0, u "jdk/internal/util/Preconditions"), (0, u "SIOOBE_FORMATTER"), (0, u "Ljava/util/function/BiFunction;"), (0, .methodref 1054 1060), (0, .nameAndType 501 1061), (0, u "(IILjava/util/function/BiFunction;)I"), (39, u "serialPersistentFields"), (0, u "[Ljava/io/ObjectStreamField;"), (0, .class_ 1104), (0, u "java/lang/String$CaseInsensitiveComparator"), (1, .class_ 1107), (0, u "java/io/Serializable"), (0, .class_ 1109), (0, u "java/lang/Comparable"), (0, .class_ 1111), (0, u "java/lang/constant/Constable"), (0, .class_ 1113), (0, u "java/lang/constant/ConstantDesc"), (2, u "serialVersionUID"), (0, u "J"), (3, u "REPL"), (0, u "C"), (2, u "LATIN1"), (1, u "UTF16")] 323

def k7m0 : Method := { name := "<init>", desc := "()V", sig := { parameters := [], returnType := none }, accessFlags := 1, code := none }
def k7c1 : Code := { maxStack := 5, maxLocals := 2, code := jdk_42_method_3_code, exceptionTable := #[], attributes := #[] }
def k7m1 : Method := { name := "<init>", desc := "([C)V", sig := { parameters := [(.array .char)], returnType := none }, accessFlags := 1, code := some k7c1 }
def k7c2 : Code := { maxStack := 2, maxLocals := 1, code := jdk_42_method_54_code, exceptionTable := #[], attributes := #[] }
def k7m2 : Method := { name := "length", desc := "()I", sig := { parameters := [], returnType := some .int }, accessFlags := 1, code := some k7c2 }
def k7c3 : Code := { maxStack := 2, maxLocals := 2, code := jdk_42_method_56_code, exceptionTable := #[], attributes := #[] }
def k7m3 : Method := { name := "charAt", desc := "(I)C", sig := { parameters := [.int], returnType := some .char }, accessFlags := 1, code := some k7c3 }
def k7c4 : Code := { maxStack := 2, maxLocals := 3, code := jdk_42_method_66_code, exceptionTable := #[], attributes := #[] }
def k7m4 : Method := { name := "equals", desc := "(Ljava/lang/Object;)Z", sig := { parameters := [(.object "java/lang/Object")], returnType := some .boolean }, accessFlags := 1, code := some k7c4 }
def k7c5 : Code := { maxStack := 4, maxLocals := 6, code := jdk_42_method_149_code, exceptionTable := #[], attributes := #[] }
def k7m5 : Method := { name := "<init>", desc := "([CIILjava/lang/Void;)V", sig := { parameters := [(.array .char), .int, .int, (.object "java/lang/Void")], returnType := none }, accessFlags := 2, code := some k7c5 }
def k7c6 : Code := { maxStack := 1, maxLocals := 1, code := jdk_42_method_152_code, exceptionTable := #[], attributes := #[] }
def k7m6 : Method := { name := "coder", desc := "()B", sig := { parameters := [], returnType := some .byte }, accessFlags := 0, code := some k7c6 }
def k7c7 : Code := { maxStack := 1, maxLocals := 1, code := jdk_42_method_154_code, exceptionTable := #[], attributes := #[] }
def k7m7 : Method := { name := "isLatin1", desc := "()Z", sig := { parameters := [], returnType := some .boolean }, accessFlags := 0, code := some k7c7 }
def k7c8 : Code := { maxStack := 3, maxLocals := 2, code := jdk_42_method_155_code, exceptionTable := #[], attributes := #[] }
def k7m8 : Method := { name := "checkIndex", desc := "(II)V", sig := { parameters := [.int, .int], returnType := none }, accessFlags := 8, code := some k7c8 }
/-- java/lang/String -/
def k7 : Class := { plain "java/lang/String" (some 0) with
  accessFlags := 49
  interfaces := #[2, 3, 4, 5, 6]
  cf := some (fileOf pool7 10 #[.nestMembers #[1103]] #[{ accessFlags := 1, nameIndex := 5, descriptorIndex := 6, attributes := #[] }, { accessFlags := 1, nameIndex := 5, descriptorIndex := 1010, attributes := #[] }, { accessFlags := 1, nameIndex := 507, descriptorIndex := 334, attributes := #[] }, { accessFlags := 1, nameIndex := 497, descriptorIndex := 427, attributes := #[] }, { accessFlags := 1, nameIndex := 543, descriptorIndex := 573, attributes := #[] }, { accessFlags := 2, nameIndex := 5, descriptorIndex := 29, attributes := #[] }, { accessFlags := 0, nameIndex := 17, descriptorIndex := 337, attributes := #[] }, { accessFlags := 0, nameIndex := 494, descriptorIndex := 142, attributes := #[] }, { accessFlags := 8, nameIndex := 501, descriptorIndex := 391, attributes := #[] }] 49 2 #[1106, 1108, 575, 1110, 1112] #[{ accessFlags := 18, nameIndex := 13, descriptorIndex := 14, attributes := #[] }, { accessFlags := 18, nameIndex := 17, descriptorIndex := 18, attributes := #[] }, { accessFlags := 2, nameIndex := 21, descriptorIndex := 22, attributes := #[] }, { accessFlags := 2, nameIndex := 25, descriptorIndex := 26, attributes := #[] }, { accessFlags := 26, nameIndex := 1116, descriptorIndex := 1117, attributes := #[] }, { accessFlags := 24, nameIndex := 40, descriptorIndex := 26, attributes := #[] }, { accessFlags := 26, nameIndex := 1101, descriptorIndex := 1102, attributes := #[] }, { accessFlags := 26, nameIndex := 1121, descriptorIndex := 1122, attributes := #[] }, { accessFlags := 25, nameIndex := 599, descriptorIndex := 600, attributes := #[] }, { accessFlags := 24, nameIndex := 1125, descriptorIndex := 18, attributes := #[] }, { accessFlags := 24, nameIndex := 1127, descriptorIndex := 18, attributes := #[] }])
  fields := #[{ name := "value", type := (.array .byte), accessFlags := 18, slot := 0, constantValue := 0 }, { name := "coder", type := .byte, accessFlags := 18, slot := 1, constantValue := 0 }, { name := "hash", type := .int, accessFlags := 2, slot := 2, constantValue := 0 }, { name := "hashIsZero", type := .boolean, accessFlags := 2, slot := 3, constantValue := 0 }, { name := "serialVersionUID", type := .long, accessFlags := 26, slot := 0, constantValue := 0 }, { name := "COMPACT_STRINGS", type := .boolean, accessFlags := 24, slot := 1, constantValue := 0 }, { name := "serialPersistentFields", type := (.array (.object "java/io/ObjectStreamField")), accessFlags := 26, slot := 2, constantValue := 0 }, { name := "REPL", type := .char, accessFlags := 26, slot := 3, constantValue := 0 }, { name := "CASE_INSENSITIVE_ORDER", type := (.object "java/util/Comparator"), accessFlags := 25, slot := 4, constantValue := 0 }, { name := "LATIN1", type := .byte, accessFlags := 24, slot := 5, constantValue := 0 }, { name := "UTF16", type := .byte, accessFlags := 24, slot := 6, constantValue := 0 }]
  methods := #[k7m0, k7m1, k7m2, k7m3, k7m4, k7m5, k7m6, k7m7, k7m8]
  instanceTypes := #[(.array .byte), .byte, .int, .boolean]
  staticTypes := #[.long, .boolean, (.array (.object "java/io/ObjectStreamField")), .char, (.object "java/util/Comparator"), .byte, .byte]
  resolved := Array.replicate 1451 none
  statics := some 0 }

def pool8 : Array CpInfo := pool [(1, .class_ 2), (0, u "java/lang/String"), (1, .class_ 6), (1, u "java/lang/Object"), (0, u "<init>"), (0, u "()V"), (0, .methodref 1 10), (0, .nameAndType 11 12), (0, u "checkIndex"), (0, u "(II)V"), (1, .class_ 16), (1, u "java/lang/StringLatin1"), (36, u "([BI)C"), (67, u "$assertionsDisabled"), (0, u "Z"), (98, .class_ 223), (1, u "java/lang/StringLatin1$LinesSpliterator"), (28, u "charAt"), (28, u "equals"), (0, u "([B[B)Z"), (107, .class_ 391), (0, u "java/lang/StringLatin1$CharsSpliterator")] 3

def k8m0 : Method := { name := "<init>", desc := "()V", sig := { parameters := [], returnType := none }, accessFlags := 0, code := none }
def k8c1 : Code := { maxStack := 2, maxLocals := 2, code := jdk_43_method_2_code, exceptionTable := #[], attributes := #[] }
def k8m1 : Method := { name := "charAt", desc := "([BI)C", sig := { parameters := [(.array .byte), .int], returnType := some .char }, accessFlags := 9, code := some k8c1 }
def k8c2 : Code := { maxStack := 3, maxLocals := 3, code := jdk_43_method_13_code, exceptionTable := #[], attributes := #[] }
def k8m2 : Method := { name := "equals", desc := "([B[B)Z", sig := { parameters := [(.array .byte), (.array .byte)], returnType := some .boolean }, accessFlags := 9, code := some k8c2 }
/-- java/lang/StringLatin1 -/
def k8 : Class := { plain "java/lang/StringLatin1" (some 0) with
  accessFlags := 48
  interfaces := #[]
  cf := some (fileOf pool8 14 #[.nestMembers #[390, 221]] #[{ accessFlags := 0, nameIndex := 7, descriptorIndex := 8, attributes := #[] }, { accessFlags := 9, nameIndex := 252, descriptorIndex := 53, attributes := #[] }, { accessFlags := 9, nameIndex := 281, descriptorIndex := 282, attributes := #[] }] 48 4 #[] #[{ accessFlags := 4120, nameIndex := 121, descriptorIndex := 122, attributes := #[] }])
  fields := #[{ name := "$assertionsDisabled", type := .boolean, accessFlags := 4120, slot := 0, constantValue := 0 }]
  methods := #[k8m0, k8m1, k8m2]
  instanceTypes := #[]
  staticTypes := #[.boolean]
  resolved := Array.replicate 395 none
  statics := none }

def pool9 : Array CpInfo := pool [(2, .class_ 4), (1, u "java/lang/Object"), (0, u "<init>"), (0, u "()V"), (17, .class_ 26), (1, u "jdk/internal/util/Preconditions"), (6, u "checkIndex"), (21, .class_ 56), (0, u "jdk/internal/util/Preconditions$4"), (57, .class_ 115), (0, u "jdk/internal/util/Preconditions$1"), (7, u "SIOOBE_FORMATTER"), (0, u "Ljava/util/function/BiFunction;"), (0, .class_ 126), (0, u "jdk/internal/util/Preconditions$2"), (3, u "AIOOBE_FORMATTER"), (0, .class_ 132), (0, u "jdk/internal/util/Preconditions$3"), (3, u "IOOBE_FORMATTER"), (41, u "(IILjava/util/function/BiFunction;)I")] 15

def k9m0 : Method := { name := "<init>", desc := "()V", sig := { parameters := [], returnType := none }, accessFlags := 1, code := none }
def k9c1 : Code := { maxStack := 3, maxLocals := 3, code := jdk_41_method_11_code, exceptionTable := #[], attributes := #[] }
def k9m1 : Method := { name := "checkIndex", desc := "(IILjava/util/function/BiFunction;)I", sig := { parameters := [.int, .int, (.object "java/util/function/BiFunction")], returnType := some .int }, accessFlags := 9, code := some k9c1 }
/-- jdk/internal/util/Preconditions -/
def k9 : Class := { plain "jdk/internal/util/Preconditions" (some 0) with
  accessFlags := 33
  interfaces := #[]
  cf := some (fileOf pool9 24 #[.nestMembers #[55, 131, 125, 114]] #[{ accessFlags := 1, nameIndex := 5, descriptorIndex := 6, attributes := #[] }, { accessFlags := 9, nameIndex := 33, descriptorIndex := 178, attributes := #[] }] 33 2 #[] #[{ accessFlags := 25, nameIndex := 123, descriptorIndex := 124, attributes := #[] }, { accessFlags := 25, nameIndex := 130, descriptorIndex := 124, attributes := #[] }, { accessFlags := 25, nameIndex := 136, descriptorIndex := 124, attributes := #[] }])
  fields := #[{ name := "SIOOBE_FORMATTER", type := (.object "java/util/function/BiFunction"), accessFlags := 25, slot := 0, constantValue := 0 }, { name := "AIOOBE_FORMATTER", type := (.object "java/util/function/BiFunction"), accessFlags := 25, slot := 1, constantValue := 0 }, { name := "IOOBE_FORMATTER", type := (.object "java/util/function/BiFunction"), accessFlags := 25, slot := 2, constantValue := 0 }]
  methods := #[k9m0, k9m1]
  instanceTypes := #[]
  staticTypes := #[(.object "java/util/function/BiFunction"), (.object "java/util/function/BiFunction"), (.object "java/util/function/BiFunction")]
  resolved := Array.replicate 194 none
  statics := some 1 }

def pool10 : Array CpInfo := pool [(6, .class_ 8), (1, u "java/lang/Object"), (0, u "<init>"), (0, u "()V"), (1, .class_ 14), (1, u "java/lang/StringUTF16"), (31, u "$assertionsDisabled"), (0, u "Z"), (13, u "HI_BYTE_SHIFT"), (0, u "I"), (2, u "LO_BYTE_SHIFT"), (49, .methodref 12 116), (0, .nameAndType 117 118), (0, u "compress"), (0, u "([CI[BII)I"), (3, u "([CII)[B"), (138, u "coderFromArrayLen"), (0, u "([BI)B"), (106, .class_ 371), (1, u "java/lang/StringUTF16$LinesSpliterator"), (58, u "MAX_LENGTH"), (196, .class_ 628), (0, u "java/lang/StringUTF16$CodePointsSpliterator"), (0, .class_ 630), (0, u "java/lang/StringUTF16$CharsSpliterator")] 4

def k10m0 : Method := { name := "<init>", desc := "()V", sig := { parameters := [], returnType := none }, accessFlags := 0, code := none }
def k10c1 : Code := { maxStack := 2, maxLocals := 2, code := jdk_52_method_15_code, exceptionTable := #[], attributes := #[] }
def k10m1 : Method := { name := "coderFromArrayLen", desc := "([BI)B", sig := { parameters := [(.array .byte), .int], returnType := some .byte }, accessFlags := 8, code := some k10c1 }
def k10c2 : Code := { maxStack := 5, maxLocals := 6, code := jdk_52_method_16_code, exceptionTable := #[], attributes := #[] }
def k10m2 : Method := { name := "compress", desc := "([CII)[B", sig := { parameters := [(.array .char), .int, .int], returnType := some (.array .byte) }, accessFlags := 9, code := some k10c2 }
def k10c3 : Code := { maxStack := 3, maxLocals := 7, code := jdk_52_method_21_code, exceptionTable := #[], attributes := #[] }
def k10m3 : Method := { name := "compress", desc := "([CI[BII)I", sig := { parameters := [(.array .char), .int, (.array .byte), .int, .int], returnType := some .int }, accessFlags := 9, code := some k10c3 }
/-- java/lang/StringUTF16 -/
def k10 : Class := { plain "java/lang/StringUTF16" (some 0) with
  accessFlags := 48
  interfaces := #[]
  cf := some (fileOf pool10 12 #[.nestMembers #[627, 629, 369]] #[{ accessFlags := 0, nameIndex := 9, descriptorIndex := 10, attributes := #[] }, { accessFlags := 8, nameIndex := 261, descriptorIndex := 262, attributes := #[] }, { accessFlags := 9, nameIndex := 117, descriptorIndex := 122, attributes := #[] }, { accessFlags := 9, nameIndex := 117, descriptorIndex := 118, attributes := #[] }] 48 6 #[] #[{ accessFlags := 26, nameIndex := 61, descriptorIndex := 62, attributes := #[] }, { accessFlags := 26, nameIndex := 65, descriptorIndex := 62, attributes := #[] }, { accessFlags := 24, nameIndex := 430, descriptorIndex := 62, attributes := #[] }, { accessFlags := 4120, nameIndex := 46, descriptorIndex := 47, attributes := #[] }])
  fields := #[{ name := "HI_BYTE_SHIFT", type := .int, accessFlags := 26, slot := 0, constantValue := 0 }, { name := "LO_BYTE_SHIFT", type := .int, accessFlags := 26, slot := 1, constantValue := 0 }, { name := "MAX_LENGTH", type := .int, accessFlags := 24, slot := 2, constantValue := 0 }, { name := "$assertionsDisabled", type := .boolean, accessFlags := 4120, slot := 3, constantValue := 0 }]
  methods := #[k10m0, k10m1, k10m2, k10m3]
  instanceTypes := #[]
  staticTypes := #[.int, .int, .int, .boolean]
  resolved := Array.replicate 635 none
  statics := none }

def pool11 : Array CpInfo := pool [(2, .class_ 4), (1, u "java/lang/Object"), (0, u "<init>"), (0, u "()V"), (0, .class_ 8), (0, u "com/example/countersign/countersign/CommandLog"), (0, .string 10), (0, u "--verbose"), (0, .methodref 12 13), (0, .class_ 14), (0, .nameAndType 15 16), (0, u "java/lang/String"), (0, u "equals"), (0, u "(Ljava/lang/Object;)Z"), (0, .string 18), (0, u "-v"), (1, .class_ 22), (1, u "com/example/countersign/countersign/CommandLog$Steps"), (4, u "verbose"), (0, u "Z"), (98, u "SWITCH"), (0, u "Ljava/lang/String;"), (1, u "SHORT_SWITCH"), (0, u "PREFIX"), (4, u "isSwitch"), (0, u "(Ljava/lang/String;)Z"), (17, .class_ 156), (0, u "com/example/countersign/countersign/CommandLog$LineFormatter"), (0, .class_ 158), (0, u "com/example/countersign/countersign/CommandLog$LineHandler")] 24

def k11m0 : Method := { name := "<init>", desc := "()V", sig := { parameters := [], returnType := none }, accessFlags := 2, code := none }
def k11c1 : Code := { maxStack := 2, maxLocals := 1, code := prog_9_method_2_code, exceptionTable := #[], attributes := #[] }
def k11m1 : Method := { name := "isSwitch", desc := "(Ljava/lang/String;)Z", sig := { parameters := [(.object "java/lang/String")], returnType := some .boolean }, accessFlags := 8, code := some k11c1 }
/-- com/example/countersign/countersign/CommandLog -/
def k11 : Class := { plain "com/example/countersign/countersign/CommandLog" (some 0) with
  accessFlags := 48
  interfaces := #[]
  cf := some (fileOf pool11 7 #[.nestMembers #[155, 157, 20]] #[{ accessFlags := 2, nameIndex := 5, descriptorIndex := 6, attributes := #[] }, { accessFlags := 8, nameIndex := 136, descriptorIndex := 137, attributes := #[] }] 48 2 #[] #[{ accessFlags := 24, nameIndex := 127, descriptorIndex := 128, attributes := #[] }, { accessFlags := 24, nameIndex := 130, descriptorIndex := 128, attributes := #[] }, { accessFlags := 24, nameIndex := 131, descriptorIndex := 128, attributes := #[] }, { accessFlags := 74, nameIndex := 27, descriptorIndex := 28, attributes := #[] }])
  fields := #[{ name := "SWITCH", type := (.object "java/lang/String"), accessFlags := 24, slot := 0, constantValue := 0 }, { name := "SHORT_SWITCH", type := (.object "java/lang/String"), accessFlags := 24, slot := 1, constantValue := 0 }, { name := "PREFIX", type := (.object "java/lang/String"), accessFlags := 24, slot := 2, constantValue := 0 }, { name := "verbose", type := .boolean, accessFlags := 74, slot := 3, constantValue := 0 }]
  methods := #[k11m0, k11m1]
  instanceTypes := #[]
  staticTypes := #[(.object "java/lang/String"), (.object "java/lang/String"), (.object "java/lang/String"), .boolean]
  resolved := Array.replicate 183 none
  statics := none }

def pool12 : Array CpInfo := pool [(9, u "<init>"), (6, .class_ 18), (1, u "java/lang/Object"), (0, u "()V"), (1, .class_ 23), (1, u "jdk/internal/util/ArraysSupport"), (0, u "LOG2_ARRAY_LONG_INDEX_SCALE"), (0, u "I"), (2, u "U"), (0, u "Ljdk/internal/misc/Unsafe;"), (8, u "BIG_ENDIAN"), (0, u "Z"), (8, u "LOG2_BYTE_BIT_SIZE"), (4, u "LOG2_ARRAY_INT_INDEX_SCALE"), (54, u "JLA"), (0, u "Ljdk/internal/access/JavaLangAccess;"), (11, u "LOG2_ARRAY_BOOLEAN_INDEX_SCALE"), (9, u "LOG2_ARRAY_BYTE_INDEX_SCALE"), (5, u "LOG2_ARRAY_CHAR_INDEX_SCALE"), (5, u "LOG2_ARRAY_SHORT_INDEX_SCALE"), (18, u "LOG2_ARRAY_FLOAT_INDEX_SCALE"), (24, u "LOG2_ARRAY_DOUBLE_INDEX_SCALE"), (89, u "T_BOOLEAN"), (2, u "T_CHAR"), (1, u "T_FLOAT"), (1, u "T_DOUBLE"), (1, u "T_BYTE"), (1, u "T_SHORT"), (1, u "T_INT"), (1, u "T_LONG"), (1, u "SOFT_MAX_ARRAY_LENGTH")] 83

def k12m0 : Method := { name := "<init>", desc := "()V", sig := { parameters := [], returnType := none }, accessFlags := 2, code := none }
/-- jdk/internal/util/ArraysSupport -/
def k12 : Class := { plain "jdk/internal/util/ArraysSupport" (some 0) with
  accessFlags := 33
  interfaces := #[]
  cf := some (fileOf pool12 21 #[] #[{ accessFlags := 2, nameIndex := 9, descriptorIndex := 19, attributes := #[] }] 33 16 #[] #[{ accessFlags := 24, nameIndex := 28, descriptorIndex := 29, attributes := #[] }, { accessFlags := 26, nameIndex := 38, descriptorIndex := 39, attributes := #[] }, { accessFlags := 25, nameIndex := 121, descriptorIndex := 25, attributes := #[] }, { accessFlags := 25, nameIndex := 131, descriptorIndex := 25, attributes := #[] }, { accessFlags := 25, nameIndex := 137, descriptorIndex := 25, attributes := #[] }, { accessFlags := 25, nameIndex := 143, descriptorIndex := 25, attributes := #[] }, { accessFlags := 25, nameIndex := 53, descriptorIndex := 25, attributes := #[] }, { accessFlags := 25, nameIndex := 24, descriptorIndex := 25, attributes := #[] }, { accessFlags := 25, nameIndex := 162, descriptorIndex := 25, attributes := #[] }, { accessFlags := 25, nameIndex := 187, descriptorIndex := 25, attributes := #[] }, { accessFlags := 26, nameIndex := 48, descriptorIndex := 25, attributes := #[] }, { accessFlags := 25, nameIndex := 277, descriptorIndex := 25, attributes := #[] }, { accessFlags := 25, nameIndex := 280, descriptorIndex := 25, attributes := #[] }, { accessFlags := 25, nameIndex := 282, descriptorIndex := 25, attributes := #[] }, { accessFlags := 25, nameIndex := 284, descriptorIndex := 25, attributes := #[] }, { accessFlags := 25, nameIndex := 286, descriptorIndex := 25, attributes := #[] }, { accessFlags := 25, nameIndex := 288, descriptorIndex := 25, attributes := #[] }, { accessFlags := 25, nameIndex := 290, descriptorIndex := 25, attributes := #[] }, { accessFlags := 25, nameIndex := 292, descriptorIndex := 25, attributes := #[] }, { accessFlags := 26, nameIndex := 108, descriptorIndex := 109, attributes := #[] }, { accessFlags := 25, nameIndex := 294, descriptorIndex := 25, attributes := #[] }])
  fields := #[{ name := "U", type := (.object "jdk/internal/misc/Unsafe"), accessFlags := 24, slot := 0, constantValue := 0 }, { name := "BIG_ENDIAN", type := .boolean, accessFlags := 26, slot := 1, constantValue := 0 }, { name := "LOG2_ARRAY_BOOLEAN_INDEX_SCALE", type := .int, accessFlags := 25, slot := 2, constantValue := 0 }, { name := "LOG2_ARRAY_BYTE_INDEX_SCALE", type := .int, accessFlags := 25, slot := 3, constantValue := 0 }, { name := "LOG2_ARRAY_CHAR_INDEX_SCALE", type := .int, accessFlags := 25, slot := 4, constantValue := 0 }, { name := "LOG2_ARRAY_SHORT_INDEX_SCALE", type := .int, accessFlags := 25, slot := 5, constantValue := 0 }, { name := "LOG2_ARRAY_INT_INDEX_SCALE", type := .int, accessFlags := 25, slot := 6, constantValue := 0 }, { name := "LOG2_ARRAY_LONG_INDEX_SCALE", type := .int, accessFlags := 25, slot := 7, constantValue := 0 }, { name := "LOG2_ARRAY_FLOAT_INDEX_SCALE", type := .int, accessFlags := 25, slot := 8, constantValue := 0 }, { name := "LOG2_ARRAY_DOUBLE_INDEX_SCALE", type := .int, accessFlags := 25, slot := 9, constantValue := 0 }, { name := "LOG2_BYTE_BIT_SIZE", type := .int, accessFlags := 26, slot := 10, constantValue := 0 }, { name := "T_BOOLEAN", type := .int, accessFlags := 25, slot := 11, constantValue := 0 }, { name := "T_CHAR", type := .int, accessFlags := 25, slot := 12, constantValue := 0 }, { name := "T_FLOAT", type := .int, accessFlags := 25, slot := 13, constantValue := 0 }, { name := "T_DOUBLE", type := .int, accessFlags := 25, slot := 14, constantValue := 0 }, { name := "T_BYTE", type := .int, accessFlags := 25, slot := 15, constantValue := 0 }, { name := "T_SHORT", type := .int, accessFlags := 25, slot := 16, constantValue := 0 }, { name := "T_INT", type := .int, accessFlags := 25, slot := 17, constantValue := 0 }, { name := "T_LONG", type := .int, accessFlags := 25, slot := 18, constantValue := 0 }, { name := "JLA", type := (.object "jdk/internal/access/JavaLangAccess"), accessFlags := 26, slot := 19, constantValue := 0 }, { name := "SOFT_MAX_ARRAY_LENGTH", type := .int, accessFlags := 25, slot := 20, constantValue := 0 }]
  methods := #[k12m0]
  instanceTypes := #[]
  staticTypes := #[(.object "jdk/internal/misc/Unsafe"), .boolean, .int, .int, .int, .int, .int, .int, .int, .int, .int, .int, .int, .int, .int, .int, .int, .int, .int, (.object "jdk/internal/access/JavaLangAccess"), .int]
  resolved := Array.replicate 378 none
  statics := none }

def pool13 : Array CpInfo := pool [(1, u "java/lang/Cloneable"), (0, .class_ 1), (0, u "java/lang/Object"), (0, .class_ 3)] 3

/-- java/lang/Cloneable -/
def k13 : Class := { plain "java/lang/Cloneable" (some 0) with
  accessFlags := 1537
  interfaces := #[]
  cf := some (fileOf pool13 2 #[] #[] 1537 4 #[] #[])
  fields := #[]
  methods := #[]
  instanceTypes := #[]
  staticTypes := #[]
  resolved := Array.replicate 8 none
  statics := none }

/-- the primitive byte -/
def k14 : Class := { plain "byte" none with kind := .primitive 'B', accessFlags := 0x411 }
/-- [B -/
def k15 : Class := { plain "[B" (some 0) with kind := .array 14 .byte, interfaces := #[13, 2], accessFlags := 1041 }

/-- the primitive char -/
def k16 : Class := { plain "char" none with kind := .primitive 'C', accessFlags := 0x411 }
/-- [C -/
def k17 : Class := { plain "[C" (some 0) with kind := .array 16 .char, interfaces := #[13, 2], accessFlags := 1041 }

/-- the primitive int -/
def k18 : Class := { plain "int" none with kind := .primitive 'I', accessFlags := 0x411 }
/-- [I -/
def k19 : Class := { plain "[I" (some 0) with kind := .array 18 .int, interfaces := #[13, 2], accessFlags := 1041 }

def heap : Heap := #[{ cls := 7, slots := #[.long 0, .int 1, .null, .int 0, .null, .int 0, .int 0], vm := .statics 7 },
  { cls := 9, slots := #[.null, .null, .null], vm := .statics 9 }]
def classes : Array Class := #[k0, k1, k2, k3, k4, k5, k6, k7, k8, k9, k10, k11, k12, k13, k14, k15, k16, k17, k18, k19]
def interned : List (Array UInt16 × Addr) := []
def slotsUsed : Nat := 10
def theMethod : MethodId := ⟨1, 3⟩
def args0 : Array Value := #[.int 5, .int 5, .int 5, .int 5]
def aboutOver (below : List Frame) : State where
  vm := { classes := classes, interned := interned.toArray }
  heap := heap
  slotsUsed := slotsUsed
  threads := #[{ frames := .invoking theMethod args0 :: below }]
def below0 : List Frame := [.native { method := ⟨0, 0⟩, args := #[] }]
def about1 : State := aboutOver below0
def p0 : Program := .bare "" "" ""
def e0 : Env := launch0.env 0 0 0
theorem w_frames : about1.frames = Frame.invoking theMethod args0 :: below0 := rfl
set_option maxRecDepth 65536 in
theorem w_args : argsFit about1.vm theMethod args0 = true := by decide +kernel
set_option maxRecDepth 65536 in
theorem w_heap : heapFits about1 = true := by decide +kernel
set_option maxRecDepth 65536 in
theorem w_runnable : about1.curStatus? = some .runnable := by decide +kernel
set_option maxRecDepth 65536 in
theorem w_alone : about1.alone = true := by decide +kernel
set_option maxRecDepth 65536 in
theorem w_named : about1.methodNamed? x = some theMethod := by decide +kernel
set_option maxRecDepth 65536 in
theorem w_hears : about1.hears theMethod below0 = true := by decide +kernel
set_option maxRecDepth 65536 in
theorem w_ripe : about1.ripe theMethod args0 below0 = true := by decide +kernel
theorem w_running : about1.status = .running := rfl
set_option maxRecDepth 65536 in
theorem w_room : about1.hasRoom e0.platform room_1 = true :=
  launch0.hasRoom_least _ room_1 (by decide +kernel) (by decide +kernel) (by decide +kernel) (by decide +kernel) (by decide +kernel) (by decide +kernel)
theorem allAtoms_all (ts : List Jvm.Cond) (a : Array Jvm.Value) (st : Jvm.State) : (allAtoms ts).before a st = ts.all (fun c => c.before a st) := by
  induction ts with
  | nil => rfl
  | cons c t ih =>
    show (Jvm.Cond.and c (allAtoms t)).before a st = _
    rw [Jvm.Cond.before_and, ih, List.all_cons]
def words1 : List Jvm.Cond := Jvm.Cond.code x code maxLocals ret :: tables_1
/-- a 'code' word, met by the world's own term for the bytes: nothing is compared byte by byte -/
theorem code_word {y : MethodName} {bytes : ByteArray} {mx : Nat} {rt : Option FieldType} {a : Array Value} {s : State} {m : MethodId} {meth : Method} {c : Code} (h1 : s.methodNamed? y = some m) (h2 : s.vm.method? m = some meth) (h3 : meth.code = some c) (h4 : c.code = bytes)
    (h5 : (c.maxLocals == mx && c.exceptionTable.isEmpty && decide (c.maxStack ≤ mostOperands) && decide (meth.sig.returnType = rt) && !meth.locks && decide (parseMethodDescriptor y.desc = some meth.sig)) = true) : (Jvm.Cond.code y bytes mx rt).before a s = true := by
  simp only [Bool.and_eq_true, beq_iff_eq, Bool.not_eq_true', decide_eq_true_eq] at h5
  obtain ⟨⟨⟨⟨⟨g1, g2⟩, g3⟩, g4⟩, g5⟩, g6⟩ := h5
  simp [Cond.before, Cond.holds, Cond.value, h1, h2, h3, h4, g1, g2, g3, g4, g5, g6]
def isCode : Jvm.Cond → Bool
  | .code _ _ _ _ => true
  | _ => false
theorem all_split {L : List Jvm.Cond} {P : Jvm.Cond → Bool} (h1 : L.all (fun c => isCode c || P c) = true) (h2 : ∀ c ∈ L.filter isCode, P c = true) : L.all P = true := by
  refine List.all_eq_true.mpr fun c hc => ?_
  have h := List.all_eq_true.mp h1 c hc
  rcases Bool.eq_false_or_eq_true (isCode c) with hi | hi
  · exact h2 c (List.mem_filter.mpr ⟨hc, hi⟩)
  · simpa [hi] using h
set_option maxRecDepth 65536 in
theorem w_c0 : (Jvm.Cond.code x code maxLocals ret).before args0 about1 = true := code_word (m := ⟨1, 3⟩) (meth := k1m3) (c := k1c3) (by decide +kernel) rfl rfl rfl (by decide +kernel)
set_option maxRecDepth 65536 in
theorem w_c1 : (Jvm.Cond.code ({ cls := "java/lang/String", name := "length", desc := "()I" } : Jvm.MethodName) jdk_42_method_54_code (1 : Nat) (Option.some Jvm.ClassFile.FieldType.int)).before args0 about1 = true := code_word (m := ⟨7, 2⟩) (meth := k7m2) (c := k7c2) (by decide +kernel) rfl rfl rfl (by decide +kernel)
set_option maxRecDepth 65536 in
theorem w_c2 : (Jvm.Cond.code ({ cls := "java/lang/String", name := "coder", desc := "()B" } : Jvm.MethodName) jdk_42_method_152_code (1 : Nat) (Option.some Jvm.ClassFile.FieldType.byte)).before args0 about1 = true := code_word (m := ⟨7, 6⟩) (meth := k7m6) (c := k7c6) (by decide +kernel) rfl rfl rfl (by decide +kernel)
set_option maxRecDepth 65536 in
theorem w_c3 : (Jvm.Cond.code ({ cls := "com/example/countersign/countersign/CommandLogIsSwitchPinLaw", name := "put", desc := "([CILjava/lang/String;CZIC)V" } : Jvm.MethodName) method_3_code (7 : Nat) (Option.none : Option Jvm.ClassFile.FieldType)).before args0 about1 = true := code_word (m := ⟨1, 2⟩) (meth := k1m2) (c := k1c2) (by decide +kernel) rfl rfl rfl (by decide +kernel)
set_option maxRecDepth 65536 in
theorem w_c4 : (Jvm.Cond.code ({ cls := "com/example/countersign/countersign/CommandLogIsSwitchPinLaw", name := "at", desc := "(Ljava/lang/String;IC)C" } : Jvm.MethodName) method_2_code (3 : Nat) (Option.some Jvm.ClassFile.FieldType.char)).before args0 about1 = true := code_word (m := ⟨1, 1⟩) (meth := k1m1) (c := k1c1) (by decide +kernel) rfl rfl rfl (by decide +kernel)
set_option maxRecDepth 65536 in
theorem w_c5 : (Jvm.Cond.code ({ cls := "java/lang/String", name := "charAt", desc := "(I)C" } : Jvm.MethodName) jdk_42_method_56_code (2 : Nat) (Option.some Jvm.ClassFile.FieldType.char)).before args0 about1 = true := code_word (m := ⟨7, 3⟩) (meth := k7m3) (c := k7c3) (by decide +kernel) rfl rfl rfl (by decide +kernel)
set_option maxRecDepth 65536 in
theorem w_c6 : (Jvm.Cond.code ({ cls := "java/lang/String", name := "isLatin1", desc := "()Z" } : Jvm.MethodName) jdk_42_method_154_code (1 : Nat) (Option.some Jvm.ClassFile.FieldType.boolean)).before args0 about1 = true := code_word (m := ⟨7, 7⟩) (meth := k7m7) (c := k7c7) (by decide +kernel) rfl rfl rfl (by decide +kernel)
set_option maxRecDepth 65536 in
theorem w_c7 : (Jvm.Cond.code ({ cls := "java/lang/StringLatin1", name := "charAt", desc := "([BI)C" } : Jvm.MethodName) jdk_43_method_2_code (2 : Nat) (Option.some Jvm.ClassFile.FieldType.char)).before args0 about1 = true := code_word (m := ⟨8, 1⟩) (meth := k8m1) (c := k8c1) (by decide +kernel) rfl rfl rfl (by decide +kernel)
set_option maxRecDepth 65536 in
theorem w_c8 : (Jvm.Cond.code ({ cls := "java/lang/String", name := "checkIndex", desc := "(II)V" } : Jvm.MethodName) jdk_42_method_155_code (2 : Nat) (Option.none : Option Jvm.ClassFile.FieldType)).before args0 about1 = true := code_word (m := ⟨7, 8⟩) (meth := k7m8) (c := k7c8) (by decide +kernel) rfl rfl rfl (by decide +kernel)
set_option maxRecDepth 65536 in
theorem w_c9 : (Jvm.Cond.code ({ cls := "jdk/internal/util/Preconditions", name := "checkIndex", desc := "(IILjava/util/function/BiFunction;)I" } : Jvm.MethodName) jdk_41_method_11_code (3 : Nat) (Option.some Jvm.ClassFile.FieldType.int)).before args0 about1 = true := code_word (m := ⟨9, 1⟩) (meth := k9m1) (c := k9c1) (by decide +kernel) rfl rfl rfl (by decide +kernel)
set_option maxRecDepth 65536 in
theorem w_c10 : (Jvm.Cond.code ({ cls := "java/lang/String", name := "<init>", desc := "([C)V" } : Jvm.MethodName) jdk_42_method_3_code (2 : Nat) (Option.none : Option Jvm.ClassFile.FieldType)).before args0 about1 = true := code_word (m := ⟨7, 1⟩) (meth := k7m1) (c := k7c1) (by decide +kernel) rfl rfl rfl (by decide +kernel)
set_option maxRecDepth 65536 in
theorem w_c11 : (Jvm.Cond.code ({ cls := "java/lang/String", name := "<init>", desc := "([CIILjava/lang/Void;)V" } : Jvm.MethodName) jdk_42_method_149_code (6 : Nat) (Option.none : Option Jvm.ClassFile.FieldType)).before args0 about1 = true := code_word (m := ⟨7, 5⟩) (meth := k7m5) (c := k7c5) (by decide +kernel) rfl rfl rfl (by decide +kernel)
set_option maxRecDepth 65536 in
theorem w_c12 : (Jvm.Cond.code ({ cls := "java/lang/Object", name := "<init>", desc := "()V" } : Jvm.MethodName) object_method_1_code (1 : Nat) (Option.none : Option Jvm.ClassFile.FieldType)).before args0 about1 = true := code_word (m := ⟨0, 0⟩) (meth := k0m0) (c := k0c0) (by decide +kernel) rfl rfl rfl (by decide +kernel)
set_option maxRecDepth 65536 in
theorem w_c13 : (Jvm.Cond.code ({ cls := "java/lang/StringUTF16", name := "compress", desc := "([CII)[B" } : Jvm.MethodName) jdk_52_method_16_code (6 : Nat) (Option.some (Jvm.ClassFile.FieldType.array Jvm.ClassFile.FieldType.byte))).before args0 about1 = true := code_word (m := ⟨10, 2⟩) (meth := k10m2) (c := k10c2) (by decide +kernel) rfl rfl rfl (by decide +kernel)
set_option maxRecDepth 65536 in
theorem w_c14 : (Jvm.Cond.code ({ cls := "java/lang/StringUTF16", name := "compress", desc := "([CI[BII)I" } : Jvm.MethodName) jdk_52_method_21_code (7 : Nat) (Option.some Jvm.ClassFile.FieldType.int)).before args0 about1 = true := code_word (m := ⟨10, 3⟩) (meth := k10m3) (c := k10c3) (by decide +kernel) rfl rfl rfl (by decide +kernel)
set_option maxRecDepth 65536 in
theorem w_c15 : (Jvm.Cond.code ({ cls := "java/lang/StringUTF16", name := "coderFromArrayLen", desc := "([BI)B" } : Jvm.MethodName) jdk_52_method_15_code (2 : Nat) (Option.some Jvm.ClassFile.FieldType.byte)).before args0 about1 = true := code_word (m := ⟨10, 1⟩) (meth := k10m1) (c := k10c1) (by decide +kernel) rfl rfl rfl (by decide +kernel)
set_option maxRecDepth 65536 in
theorem w_c16 : (Jvm.Cond.code ({ cls := "com/example/countersign/countersign/CommandLog", name := "isSwitch", desc := "(Ljava/lang/String;)Z" } : Jvm.MethodName) prog_9_method_2_code (1 : Nat) (Option.some Jvm.ClassFile.FieldType.boolean)).before args0 about1 = true := code_word (m := ⟨11, 1⟩) (meth := k11m1) (c := k11c1) (by decide +kernel) rfl rfl rfl (by decide +kernel)
set_option maxRecDepth 65536 in
theorem w_c17 : (Jvm.Cond.code ({ cls := "java/lang/String", name := "equals", desc := "(Ljava/lang/Object;)Z" } : Jvm.MethodName) jdk_42_method_66_code (3 : Nat) (Option.some Jvm.ClassFile.FieldType.boolean)).before args0 about1 = true := code_word (m := ⟨7, 4⟩) (meth := k7m4) (c := k7c4) (by decide +kernel) rfl rfl rfl (by decide +kernel)
set_option maxRecDepth 65536 in
theorem w_c18 : (Jvm.Cond.code ({ cls := "java/lang/StringLatin1", name := "equals", desc := "([B[B)Z" } : Jvm.MethodName) jdk_43_method_13_code (3 : Nat) (Option.some Jvm.ClassFile.FieldType.boolean)).before args0 about1 = true := code_word (m := ⟨8, 2⟩) (meth := k8m2) (c := k8c2) (by decide +kernel) rfl rfl rfl (by decide +kernel)
def codes1 : List Jvm.Cond := [Jvm.Cond.code x code maxLocals ret, Jvm.Cond.code ({ cls := "java/lang/String", name := "length", desc := "()I" } : Jvm.MethodName) jdk_42_method_54_code (1 : Nat) (Option.some Jvm.ClassFile.FieldType.int), Jvm.Cond.code ({ cls := "java/lang/String", name := "coder", desc := "()B" } : Jvm.MethodName) jdk_42_method_152_code (1 : Nat) (Option.some Jvm.ClassFile.FieldType.byte), Jvm.Cond.code ({ cls := "com/example/countersign/countersign/CommandLogIsSwitchPinLaw", name := "put", desc := "([CILjava/lang/String;CZIC)V" } : Jvm.MethodName) method_3_code (7 : Nat) (Option.none : Option Jvm.ClassFile.FieldType), Jvm.Cond.code ({ cls := "com/example/countersign/countersign/CommandLogIsSwitchPinLaw", name := "at", desc := "(Ljava/lang/String;IC)C" } : Jvm.MethodName) method_2_code (3 : Nat) (Option.some Jvm.ClassFile.FieldType.char), Jvm.Cond.code ({ cls := "java/lang/String", name := "charAt", desc := "(I)C" } : Jvm.MethodName) jdk_42_method_56_code (2 : Nat) (Option.some Jvm.ClassFile.FieldType.char), Jvm.Cond.code ({ cls := "java/lang/String", name := "isLatin1", desc := "()Z" } : Jvm.MethodName) jdk_42_method_154_code (1 : Nat) (Option.some Jvm.ClassFile.FieldType.boolean), Jvm.Cond.code ({ cls := "java/lang/StringLatin1", name := "charAt", desc := "([BI)C" } : Jvm.MethodName) jdk_43_method_2_code (2 : Nat) (Option.some Jvm.ClassFile.FieldType.char), Jvm.Cond.code ({ cls := "java/lang/String", name := "checkIndex", desc := "(II)V" } : Jvm.MethodName) jdk_42_method_155_code (2 : Nat) (Option.none : Option Jvm.ClassFile.FieldType), Jvm.Cond.code ({ cls := "jdk/internal/util/Preconditions", name := "checkIndex", desc := "(IILjava/util/function/BiFunction;)I" } : Jvm.MethodName) jdk_41_method_11_code (3 : Nat) (Option.some Jvm.ClassFile.FieldType.int), Jvm.Cond.code ({ cls := "java/lang/String", name := "<init>", desc := "([C)V" } : Jvm.MethodName) jdk_42_method_3_code (2 : Nat) (Option.none : Option Jvm.ClassFile.FieldType), Jvm.Cond.code ({ cls := "java/lang/String", name := "<init>", desc := "([CIILjava/lang/Void;)V" } : Jvm.MethodName) jdk_42_method_149_code (6 : Nat) (Option.none : Option Jvm.ClassFile.FieldType), Jvm.Cond.code ({ cls := "java/lang/Object", name := "<init>", desc := "()V" } : Jvm.MethodName) object_method_1_code (1 : Nat) (Option.none : Option Jvm.ClassFile.FieldType), Jvm.Cond.code ({ cls := "java/lang/StringUTF16", name := "compress", desc := "([CII)[B" } : Jvm.MethodName) jdk_52_method_16_code (6 : Nat) (Option.some (Jvm.ClassFile.FieldType.array Jvm.ClassFile.FieldType.byte)), Jvm.Cond.code ({ cls := "java/lang/StringUTF16", name := "compress", desc := "([CI[BII)I" } : Jvm.MethodName) jdk_52_method_21_code (7 : Nat) (Option.some Jvm.ClassFile.FieldType.int), Jvm.Cond.code ({ cls := "java/lang/StringUTF16", name := "coderFromArrayLen", desc := "([BI)B" } : Jvm.MethodName) jdk_52_method_15_code (2 : Nat) (Option.some Jvm.ClassFile.FieldType.byte), Jvm.Cond.code ({ cls := "com/example/countersign/countersign/CommandLog", name := "isSwitch", desc := "(Ljava/lang/String;)Z" } : Jvm.MethodName) prog_9_method_2_code (1 : Nat) (Option.some Jvm.ClassFile.FieldType.boolean), Jvm.Cond.code ({ cls := "java/lang/String", name := "equals", desc := "(Ljava/lang/Object;)Z" } : Jvm.MethodName) jdk_42_method_66_code (3 : Nat) (Option.some Jvm.ClassFile.FieldType.boolean), Jvm.Cond.code ({ cls := "java/lang/StringLatin1", name := "equals", desc := "([B[B)Z" } : Jvm.MethodName) jdk_43_method_13_code (3 : Nat) (Option.some Jvm.ClassFile.FieldType.boolean)]
set_option maxRecDepth 65536 in
theorem codes_eq : words1.filter isCode = codes1 := rfl
theorem w_codes : ∀ c ∈ words1.filter isCode, c.before args0 about1 = true := by
  rw [codes_eq]
  intro c hc
  simp only [codes1, List.mem_cons, List.not_mem_nil, or_false] at hc
  rcases hc with rfl | rfl | rfl | rfl | rfl | rfl | rfl | rfl | rfl | rfl | rfl | rfl | rfl | rfl | rfl | rfl | rfl | rfl | rfl
  · exact w_c0
  · exact w_c1
  · exact w_c2
  · exact w_c3
  · exact w_c4
  · exact w_c5
  · exact w_c6
  · exact w_c7
  · exact w_c8
  · exact w_c9
  · exact w_c10
  · exact w_c11
  · exact w_c12
  · exact w_c13
  · exact w_c14
  · exact w_c15
  · exact w_c16
  · exact w_c17
  · exact w_c18
set_option maxRecDepth 65536 in
theorem w_t1 : (words1.take 24).all (fun c => isCode c || c.before args0 about1) = true := by decide +kernel
set_option maxRecDepth 65536 in
theorem w_t2 : ((words1.drop 24).take 24).all (fun c => isCode c || c.before args0 about1) = true := by decide +kernel
set_option maxRecDepth 65536 in
theorem w_t3 : (((words1.drop 24).drop 24).take 24).all (fun c => isCode c || c.before args0 about1) = true := by decide +kernel
set_option maxRecDepth 65536 in
theorem w_t4 : (((words1.drop 24).drop 24).drop 24).all (fun c => isCode c || c.before args0 about1) = true := by decide +kernel
theorem w_tables : (allAtoms (Jvm.Cond.code x code maxLocals ret :: tables_1)).before args0 about1 = true := by
  rw [allAtoms_all]
  show words1.all (fun c => c.before args0 about1) = true
  refine all_split ?_ w_codes
  rw [← List.take_append_drop 24 words1, List.all_append, w_t1, ← List.take_append_drop 24 (words1.drop 24), List.all_append, w_t2, ← List.take_append_drop 24 ((words1.drop 24).drop 24), List.all_append, w_t3, w_t4]
  rfl
set_option maxRecDepth 65536 in
theorem w_rest : rest_1_c.before args0 about1 = true := by decide +kernel
set_option maxRecDepth 65536 in
theorem w_case : (Jvm.Cond.and given_1 narrow_1).before args0 about1 = true := by decide +kernel
set_option maxRecDepth 65536 in
theorem w_consts : constsHeld consts_1 about1 := Jvm.Lit.constsHeldB_iff.mp (by decide +kernel)
theorem w_applies : (headSpec (Jvm.Cond.code x code maxLocals ret :: tables_1) room_1).applies x e0.platform about1 = true :=
  (Spec.applies_iff w_frames).mpr ⟨w_running, w_runnable, w_alone, w_named, w_hears, w_ripe, w_room, w_tables⟩
theorem atStart : AtStart classFile x code maxLocals ret World_1 tables_1 room_1 Calls_1 rest_1 Pre_1 launch0 p0 e0 about1 theMethod args0 below0 :=
  ⟨lists_1, trivial, launch0.admits_env _ _ _, launch0.least_env, fairChoices_fair.cas, fairChoices_fair.clock, w_frames, w_args, w_heap, w_applies, ⟨w_consts, trivial⟩, w_rest, w_case⟩
end start1
theorem witness_1 : WitnessClaimed_1 := ⟨start1.p0, start1.e0, start1.about1, start1.theMethod, start1.args0, start1.below0, start1.atStart⟩
end Jvm.Pilot.@@N@@
