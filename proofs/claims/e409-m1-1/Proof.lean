import JvmDerived
import JvmDerived.Pilot.@@N@@Statement
import JvmDerived.Pilot.@@N@@Code
set_option linter.unusedVariables false
set_option linter.unusedSimpArgs false
namespace Jvm.OwnKit
open Sem ClassFile Op Lib Jvm.Stand Jvm.Free Jvm.LawKit Jvm.RoadKit
/-- what stays the same through one method's walk: program, environment, start, method, arguments, frames below, the method's entry and code, the state with which the walk began -/
abbrev Cx := Program × Env × State × MethodId × Array Value × List Frame × Method × Code × State
/-- where a walk stands: heap h, what was written lies at n0 or above, so many new cells and slots, pc, locals, stack -/
def Wk (κ : Cx) (l : Launch) (Z : State) (own nm : String) (code : ByteArray) (ml : Nat) (ret : Option FieldType) (R : Room) (n0 : Nat) (h : Heap) (cells slots pc : Nat) (Ls : Array Slot) (St : List Value) : Prop :=
  match κ with
  | (p, e, s, m, args, below, meth, c, S0) =>
    (p.tables.exec = Jvm.exec ∧ c.code = code ∧ c.maxLocals = ml ∧ meth.sig.returnType = ret ∧ meth.locks = false ∧ meth.name = nm ∧ Z.Warmed39 s.vm ∧ s.vm.findClass own = some m.cls) ∧
    ∃ T locs, Stand p l e R s m args below meth c T locs cells slots ∧ Fr n0 locs ∧ T.heap = h ∧ ∀ t, Steps p.tables e below (T.setTop (mkF m pc Ls St)) t → Steps p.tables e below S0 t
/-- the walk has come to its end -/
def Dn (κ : Cx) (n0 : Nat) (Q : Option Value → Heap → Prop) (cells slots : Nat) : Prop :=
  match κ with
  | (p, e, s, _, _, below, _, _, S0) => ∃ s₂ o, Steps p.tables e below S0 s₂ ∧ s₂.status = .running ∧ Ended s₂ below o ∧ ∃ v L, o = .returned v ∧ (Q v s₂.heap ∧ Fr n0 L) ∧ FrameEnd s o s₂ L cells slots
/-- a method's contract: called with these arguments over this heap it returns, and Q holds of what it returns and of the heap -/
def Met (l : Launch) (Z : State) (y : MethodName) (code : ByteArray) (ml : Nat) (ret : Option FieldType) (R : Room) (n0 : Nat) (as : Array Value) (h0 : Heap) (Q : Option Value → Heap → Prop) : Prop :=
  ∀ ws : List Cond, MetFree l y (head1 (Cond.code y code ml ret :: ws) R) (fun a U => a = as ∧ Z.Warmed39 U.vm ∧ U.heap = h0) (fun _ _ _ _ _ => True) (fun _ U o U' => ∃ v L, o = .returned v ∧ (Q v U'.heap ∧ Fr n0 L) ∧ FrameEnd U o U' L R.cells R.slots)
section Own
variable {κ : Cx} {l : Launch} {Z : State} {own nm : String} {code : ByteArray} {ml : Nat} {ret : Option FieldType} {R : Room} {n0 : Nat} {h : Heap} {cells slots pc q : Nat} {Ls : Array Slot} {St : List Value} {a0 : Array Value}
theorem Met.of {y : MethodName} {as : Array Value} {Q : Option Value → Heap → Prop} (hpl : plainFor y = true) (hef : ∀ m, entryFrame m as ml = mkF m 0 Ls []) (body : ∀ κ, Wk κ l Z y.cls y.name code ml ret R n0 h 0 0 0 Ls [] → Dn κ n0 Q R.cells R.slots) : Met l Z y code ml ret R n0 as h Q := by
  intro ws
  refine MetFree.of_bodySF hpl hisR ?_
  intro p e s m args below meth c s₁ Bd hml0 hP hK
  obtain ⟨ha, hZ, hh⟩ := hP
  have e0 : s₁.heap = h := by rw [← hh, Bd.state]; rfl
  exact body (p, e, s, m, args, below, meth, c, s₁.setTop (entryFrame m args ml)) ⟨⟨Bd.exec, Bd.bytes, hml0, Bd.returns, Bd.notSynchronized, (name_of_methodNamed Bd.named Bd.method).1, hZ, findClass_of_methodNamed Bd.named⟩, s₁, [], Stand.of_body Bd, Fr.nil n0, e0, fun t k => castTop (by rw [ha]; exact hef m) k⟩
theorem Wk.step (w : Wk κ l Z own nm code ml ret R n0 h cells slots pc Ls St) {Ls' : Array Slot} {St' : List Value}
    (f : ∀ {p : Program} {e : Env} {below : List Frame} {m : MethodId} {c : Code} {T t : State}, p.tables.exec = Jvm.exec → c.code = code → At T m c below → Steps p.tables e below (T.setTop (mkF m q Ls' St')) t → Steps p.tables e below (T.setTop (mkF m pc Ls St)) t) : Wk κ l Z own nm code ml ret R n0 h cells slots q Ls' St' := by
  obtain ⟨p, e, s, m, args, below, meth, c, S0⟩ := κ
  obtain ⟨hs, T, locs, X, N, eT, st⟩ := w
  exact ⟨hs, T, locs, X, N, eT, fun t k => st t (f hs.1 hs.2.1 X.here k)⟩
theorem Wk.stepX (w : Wk κ l Z own nm code ml ret R n0 h cells slots pc Ls St) {Ls' : Array Slot} {St' : List Value}
    (f : ∀ {p : Program} {e : Env} {s : State} {m : MethodId} {args : Array Value} {below : List Frame} {meth : Method} {c : Code} {T t : State} {locs : List Loc}, p.tables.exec = Jvm.exec → c.code = code → Z.Warmed39 s.vm → s.vm.findClass own = some m.cls → Stand p l e R s m args below meth c T locs cells slots → T.heap = h → Steps p.tables e below (T.setTop (mkF m q Ls' St')) t → Steps p.tables e below (T.setTop (mkF m pc Ls St)) t) : Wk κ l Z own nm code ml ret R n0 h cells slots q Ls' St' := by
  obtain ⟨p, e, s, m, args, below, meth, c, S0⟩ := κ
  obtain ⟨hs, T, locs, X, N, eT, st⟩ := w
  exact ⟨hs, T, locs, X, N, eT, fun t k => st t (f hs.1 hs.2.1 hs.2.2.2.2.2.2.1 hs.2.2.2.2.2.2.2 X eT k)⟩
theorem Wk.stepT (w : Wk κ l Z own nm code ml ret R n0 h cells slots pc Ls St) {Ls' : Array Slot} {St' : List Value}
    (f : ∀ {p : Program} {e : Env} {s : State} {m : MethodId} {args : Array Value} {below : List Frame} {meth : Method} {c : Code} {T : State} {locs : List Loc}, p.tables.exec = Jvm.exec → c.code = code → c.maxLocals = ml → Z.Warmed39 s.vm → s.vm.findClass own = some m.cls → Stand p l e R s m args below meth c T locs cells slots → T.heap = h → ∃ T', Stand p l e R s m args below meth c T' locs cells slots ∧ T'.heap = h ∧ ∀ t, Steps p.tables e below (T'.setTop (mkF m q Ls' St')) t → Steps p.tables e below (T.setTop (mkF m pc Ls St)) t) : Wk κ l Z own nm code ml ret R n0 h cells slots q Ls' St' := by
  obtain ⟨p, e, s, m, args, below, meth, c, S0⟩ := κ
  obtain ⟨hs, T, locs, X, N, eT, st⟩ := w
  obtain ⟨T', X', eT', st'⟩ := f hs.1 hs.2.1 hs.2.2.1 hs.2.2.2.2.2.2.1 hs.2.2.2.2.2.2.2 X eT
  exact ⟨hs, T', locs, X', N, eT', fun t k => st t (st' t k)⟩
/-! loads, stores, constants -/
theorem Wk.aloadN (w : Wk κ l Z own nm code ml ret R n0 h cells slots pc Ls St) {k : Fin 4} {v : Value} (hd : decode code pc = .ok (.aload_n k, 1)) (hl : Ls[k.val]? = some (.val v)) (hv : v.isRef = true) (hq : pc + 1 = q) : Wk κ l Z own nm code ml ret R n0 h cells slots q Ls (v :: St) := by
  subst hq; exact w.step fun hx hby hat k => XS.aloadN hat hx rfl (hb hby hd) hl hv k
theorem Wk.aload (w : Wk κ l Z own nm code ml ret R n0 h cells slots pc Ls St) {k : Nat} {v : Value} (hd : decode code pc = .ok (.aload k, 2)) (hl : Ls[k]? = some (.val v)) (hv : v.isRef = true) (hq : pc + 2 = q) : Wk κ l Z own nm code ml ret R n0 h cells slots q Ls (v :: St) := by
  subst hq; exact w.step fun hx hby hat k => XS.aload hat hx rfl (hb hby hd) hl hv k
theorem Wk.iloadN (w : Wk κ l Z own nm code ml ret R n0 h cells slots pc Ls St) {k : Fin 4} {v : Int32} (hd : decode code pc = .ok (.iload_n k, 1)) (hl : Ls[k.val]? = some (.val (.int v))) (hq : pc + 1 = q) : Wk κ l Z own nm code ml ret R n0 h cells slots q Ls (.int v :: St) := by
  subst hq; exact w.step fun hx hby hat k => XS.iloadN hat hx rfl (hb hby hd) hl k
theorem Wk.iload (w : Wk κ l Z own nm code ml ret R n0 h cells slots pc Ls St) {k : Nat} {v : Int32} (hd : decode code pc = .ok (.iload k, 2)) (hl : Ls[k]? = some (.val (.int v))) (hq : pc + 2 = q) : Wk κ l Z own nm code ml ret R n0 h cells slots q Ls (.int v :: St) := by
  subst hq; exact w.step fun hx hby hat k => XS.iload hat hx rfl (hb hby hd) hl k
theorem Wk.lloadN (w : Wk κ l Z own nm code ml ret R n0 h cells slots pc Ls St) {k : Fin 4} {v : Int64} (hd : decode code pc = .ok (.lload_n k, 1)) (hl : Ls[k.val]? = some (.val (.long v))) (hq : pc + 1 = q) : Wk κ l Z own nm code ml ret R n0 h cells slots q Ls (.long v :: St) := by
  subst hq; exact w.step fun hx hby hat k => XT.lloadN hat hx rfl (hb hby hd) hl k
theorem Wk.lload (w : Wk κ l Z own nm code ml ret R n0 h cells slots pc Ls St) {k : Nat} {v : Int64} (hd : decode code pc = .ok (.lload k, 2)) (hl : Ls[k]? = some (.val (.long v))) (hq : pc + 2 = q) : Wk κ l Z own nm code ml ret R n0 h cells slots q Ls (.long v :: St) := by
  subst hq; exact w.step fun hx hby hat k => XT.lload hat hx rfl (hb hby hd) hl k
theorem Wk.dloadN (w : Wk κ l Z own nm code ml ret R n0 h cells slots pc Ls St) {k : Fin 4} {v : UInt64} (hd : decode code pc = .ok (.dload_n k, 1)) (hl : Ls[k.val]? = some (.val (.double v))) (hq : pc + 1 = q) : Wk κ l Z own nm code ml ret R n0 h cells slots q Ls (.double v :: St) := by
  subst hq; exact w.step fun hx hby hat k => XS.dloadN hat hx rfl (hb hby hd) hl k
theorem Wk.dload (w : Wk κ l Z own nm code ml ret R n0 h cells slots pc Ls St) {k : Nat} {v : UInt64} (hd : decode code pc = .ok (.dload k, 2)) (hl : Ls[k]? = some (.val (.double v))) (hq : pc + 2 = q) : Wk κ l Z own nm code ml ret R n0 h cells slots q Ls (.double v :: St) := by
  subst hq; exact w.step fun hx hby hat k => XS.dload hat hx rfl (hb hby hd) hl k
theorem Wk.astoreN {v : Value} (w : Wk κ l Z own nm code ml ret R n0 h cells slots pc Ls (v :: St)) {k : Fin 4} {l' : Array Slot} (hd : decode code pc = .ok (.astore_n k, 1)) (hv : v.isRef = true) (hl : storeLocals Ls k.val v = some l') (hq : pc + 1 = q) : Wk κ l Z own nm code ml ret R n0 h cells slots q l' St := by
  subst hq; exact w.step fun hx hby hat k => XS.astoreN hat hx rfl (hb hby hd) rfl hv hl k
theorem Wk.astore {v : Value} (w : Wk κ l Z own nm code ml ret R n0 h cells slots pc Ls (v :: St)) {k : Nat} {l' : Array Slot} (hd : decode code pc = .ok (.astore k, 2)) (hv : v.isRef = true) (hl : storeLocals Ls k v = some l') (hq : pc + 2 = q) : Wk κ l Z own nm code ml ret R n0 h cells slots q l' St := by
  subst hq; exact w.step fun hx hby hat k => XS.astore hat hx rfl (hb hby hd) rfl hv hl k
theorem Wk.istoreN {x : Int32} (w : Wk κ l Z own nm code ml ret R n0 h cells slots pc Ls (.int x :: St)) {k : Fin 4} {l' : Array Slot} (hd : decode code pc = .ok (.istore_n k, 1)) (hl : storeLocals Ls k.val (.int x) = some l') (hq : pc + 1 = q) : Wk κ l Z own nm code ml ret R n0 h cells slots q l' St := by
  subst hq; exact w.step fun hx hby hat k => XS.istoreN hat hx rfl (hb hby hd) rfl hl k
theorem Wk.istore {x : Int32} (w : Wk κ l Z own nm code ml ret R n0 h cells slots pc Ls (.int x :: St)) {k : Nat} {l' : Array Slot} (hd : decode code pc = .ok (.istore k, 2)) (hl : storeLocals Ls k (.int x) = some l') (hq : pc + 2 = q) : Wk κ l Z own nm code ml ret R n0 h cells slots q l' St := by
  subst hq; exact w.step fun hx hby hat k => XS.istore hat hx rfl (hb hby hd) rfl hl k
theorem Wk.lstoreN {x : Int64} (w : Wk κ l Z own nm code ml ret R n0 h cells slots pc Ls (.long x :: St)) {k : Fin 4} {l' : Array Slot} (hd : decode code pc = .ok (.lstore_n k, 1)) (hl : storeLocals Ls k.val (.long x) = some l') (hq : pc + 1 = q) : Wk κ l Z own nm code ml ret R n0 h cells slots q l' St := by
  subst hq; exact w.step fun hx hby hat k => XT.lstoreN hat hx rfl (hb hby hd) rfl hl k
theorem Wk.lstore {x : Int64} (w : Wk κ l Z own nm code ml ret R n0 h cells slots pc Ls (.long x :: St)) {k : Nat} {l' : Array Slot} (hd : decode code pc = .ok (.lstore k, 2)) (hl : storeLocals Ls k (.long x) = some l') (hq : pc + 2 = q) : Wk κ l Z own nm code ml ret R n0 h cells slots q l' St := by
  subst hq; exact w.step fun hx hby hat k => XT.lstore hat hx rfl (hb hby hd) rfl hl k
theorem Wk.dstoreN {x : UInt64} (w : Wk κ l Z own nm code ml ret R n0 h cells slots pc Ls (.double x :: St)) {k : Fin 4} {l' : Array Slot} (hd : decode code pc = .ok (.dstore_n k, 1)) (hl : storeLocals Ls k.val (.double x) = some l') (hq : pc + 1 = q) : Wk κ l Z own nm code ml ret R n0 h cells slots q l' St := by
  subst hq; exact w.step fun hx hby hat k => XS.dstoreN hat hx rfl (hb hby hd) rfl hl k
theorem Wk.dstore {x : UInt64} (w : Wk κ l Z own nm code ml ret R n0 h cells slots pc Ls (.double x :: St)) {k : Nat} {l' : Array Slot} (hd : decode code pc = .ok (.dstore k, 2)) (hl : storeLocals Ls k (.double x) = some l') (hq : pc + 2 = q) : Wk κ l Z own nm code ml ret R n0 h cells slots q l' St := by
  subst hq; exact w.step fun hx hby hat k => XS.dstore hat hx rfl (hb hby hd) rfl hl k
theorem Wk.iconst (w : Wk κ l Z own nm code ml ret R n0 h cells slots pc Ls St) {i : Int} {z : Int32} (hd : decode code pc = .ok (.iconst i, 1)) (hz : Int32.ofInt i = z) (hq : pc + 1 = q) : Wk κ l Z own nm code ml ret R n0 h cells slots q Ls (.int z :: St) := by
  subst hq hz; exact w.step fun hx hby hat k => XS.iconst hat hx rfl (hb hby hd) k
theorem Wk.bipush (w : Wk κ l Z own nm code ml ret R n0 h cells slots pc Ls St) {i : Int} {z : Int32} (hd : decode code pc = .ok (.bipush i, 2)) (hz : (Int8.ofInt i).toInt32 = z) (hq : pc + 2 = q) : Wk κ l Z own nm code ml ret R n0 h cells slots q Ls (.int z :: St) := by
  subst hq hz; exact w.step fun hx hby hat k => XS.bipush hat hx rfl (hb hby hd) k
theorem Wk.sipush (w : Wk κ l Z own nm code ml ret R n0 h cells slots pc Ls St) {i : Int} {z : Int32} (hd : decode code pc = .ok (.sipush i, 3)) (hz : (Int16.ofInt i).toInt32 = z) (hq : pc + 3 = q) : Wk κ l Z own nm code ml ret R n0 h cells slots q Ls (.int z :: St) := by
  subst hq hz; exact w.step fun hx hby hat k => XS.sipush hat hx rfl (hb hby hd) k
theorem Wk.lconst (w : Wk κ l Z own nm code ml ret R n0 h cells slots pc Ls St) {i : Fin 2} {z : Int64} (hd : decode code pc = .ok (.lconst i, 1)) (hz : Int64.ofNat i = z) (hq : pc + 1 = q) : Wk κ l Z own nm code ml ret R n0 h cells slots q Ls (.long z :: St) := by
  subst hq hz; exact w.step fun hx hby hat k => XT.lconst hat hx rfl (hb hby hd) k
theorem Wk.dconst0 (w : Wk κ l Z own nm code ml ret R n0 h cells slots pc Ls St) {z : UInt64} (hd : decode code pc = .ok (.dconst 0, 1)) (hz : FP.dconst0 = z) (hq : pc + 1 = q) : Wk κ l Z own nm code ml ret R n0 h cells slots q Ls (.double z :: St) := by
  subst hq; exact w.step fun hx hby hat k => XS.dconst0 hat hx rfl (hb hby hd) hz k
theorem Wk.ldcI (w : Wk κ l Z own nm code ml ret R n0 h cells slots pc Ls St) {i : Nat} {z : Int32} (wd : (Cond.constant own i z).before a0 Z = true) (hd : decode code pc = .ok (.ldc i, 2)) (hq : pc + 2 = q) : Wk κ l Z own nm code ml ret R n0 h cells slots q Ls (.int z :: St) := by
  subst hq; exact w.stepX fun hx hby hZ hown X _ k => X.ldcInt hx hown (mvT hZ wd) (g := mkF _ pc Ls St) rfl (hb hby hd) _ k
theorem Wk.ldcWI (w : Wk κ l Z own nm code ml ret R n0 h cells slots pc Ls St) {i : Nat} {z : Int32} (wd : (Cond.constant own i z).before a0 Z = true) (hd : decode code pc = .ok (.ldc_w i, 3)) (hq : pc + 3 = q) : Wk κ l Z own nm code ml ret R n0 h cells slots q Ls (.int z :: St) := by
  subst hq; exact w.stepX fun hx hby hZ hown X _ k => X.ldcWI hx hown (mvT hZ wd) (g := mkF _ pc Ls St) rfl (hb hby hd) k
theorem Wk.ldcJ (w : Wk κ l Z own nm code ml ret R n0 h cells slots pc Ls St) {i : Nat} {z : Int64} (wd : (Cond.constantLong own i z).before a0 Z = true) (hd : decode code pc = .ok (.ldc2_w i, 3)) (hq : pc + 3 = q) : Wk κ l Z own nm code ml ret R n0 h cells slots q Ls (.long z :: St) := by
  subst hq; exact w.stepX fun hx hby hZ hown X _ k => X.ldc2Long hx hown (mvT hZ wd) (g := mkF _ pc Ls St) rfl (hb hby hd) _ k
theorem Wk.ldcD (w : Wk κ l Z own nm code ml ret R n0 h cells slots pc Ls St) {i : Nat} {z : UInt64} (wd : (Cond.constantDouble own i z).before a0 Z = true) (hd : decode code pc = .ok (.ldc2_w i, 3)) (hq : pc + 3 = q) : Wk κ l Z own nm code ml ret R n0 h cells slots q Ls (.double z :: St) := by
  subst hq; exact w.stepX fun hx hby hZ hown X _ k => X.ldc2DoubleC hx hown (mvT hZ wd) (g := mkF _ pc Ls St) rfl (hb hby hd) _ k
theorem Wk.dup {v : Value} (w : Wk κ l Z own nm code ml ret R n0 h cells slots pc Ls (v :: St)) (hd : decode code pc = .ok (.dup, 1)) (hc : v.category = 1) (hq : pc + 1 = q) : Wk κ l Z own nm code ml ret R n0 h cells slots q Ls (v :: v :: St) := by
  subst hq; exact w.step fun hx hby hat k => XS.dup hat hx rfl (hb hby hd) rfl hc k
theorem Wk.dupX1 {v u : Value} (w : Wk κ l Z own nm code ml ret R n0 h cells slots pc Ls (v :: u :: St)) (hd : decode code pc = .ok (.dup_x1, 1)) (hc : v.category = 1) (hc' : u.category = 1) (hq : pc + 1 = q) : Wk κ l Z own nm code ml ret R n0 h cells slots q Ls (v :: u :: v :: St) := by
  subst hq; exact w.step fun hx hby hat k => XT.dupX1 hat hx rfl (hb hby hd) rfl hc hc' k
theorem Wk.dup2 {v u : Value} (w : Wk κ l Z own nm code ml ret R n0 h cells slots pc Ls (v :: u :: St)) (hd : decode code pc = .ok (.dup2, 1)) (hc : v.category = 1) (hc' : u.category = 1) (hq : pc + 1 = q) : Wk κ l Z own nm code ml ret R n0 h cells slots q Ls (v :: u :: v :: u :: St) := by
  subst hq; exact w.step fun hx hby hat k => XT.dup2 hat hx rfl (hb hby hd) rfl hc hc' k
theorem Wk.pop {v : Value} (w : Wk κ l Z own nm code ml ret R n0 h cells slots pc Ls (v :: St)) (hd : decode code pc = .ok (.pop, 1)) (hc : v.category = 1) (hq : pc + 1 = q) : Wk κ l Z own nm code ml ret R n0 h cells slots q Ls St := by
  subst hq; exact w.step fun hx hby hat k => XT.pop hat hx rfl (hb hby hd) rfl hc k
theorem Wk.iinc (w : Wk κ l Z own nm code ml ret R n0 h cells slots pc Ls St) {k : Nat} {i : Int} {x z : Int32} {l' : Array Slot} (hd : decode code pc = .ok (.iinc k i, 3)) (hl : Ls[k]? = some (.val (.int x))) (hz : x + Int32.ofInt i = z) (hl' : storeLocals Ls k (.int z) = some l') (hq : pc + 3 = q) : Wk κ l Z own nm code ml ret R n0 h cells slots q l' St := by
  subst hq hz; exact w.step fun hx hby hat k => XS.iinc hat hx rfl (hb hby hd) hl hl' k
theorem Wk.iadd {x y z : Int32} (w : Wk κ l Z own nm code ml ret R n0 h cells slots pc Ls (.int y :: .int x :: St)) (hd : decode code pc = .ok (.iadd, 1)) (hz : x + y = z) (hq : pc + 1 = q) : Wk κ l Z own nm code ml ret R n0 h cells slots q Ls (.int z :: St) := by
  subst hq hz; exact w.step fun hx hby hat k => XS.iadd hat hx rfl (hb hby hd) rfl k
theorem Wk.isub {x y z : Int32} (w : Wk κ l Z own nm code ml ret R n0 h cells slots pc Ls (.int y :: .int x :: St)) (hd : decode code pc = .ok (.isub, 1)) (hz : x - y = z) (hq : pc + 1 = q) : Wk κ l Z own nm code ml ret R n0 h cells slots q Ls (.int z :: St) := by
  subst hq hz; exact w.step fun hx hby hat k => XS.isub hat hx rfl (hb hby hd) rfl k
theorem Wk.imul {x y z : Int32} (w : Wk κ l Z own nm code ml ret R n0 h cells slots pc Ls (.int y :: .int x :: St)) (hd : decode code pc = .ok (.imul, 1)) (hz : x * y = z) (hq : pc + 1 = q) : Wk κ l Z own nm code ml ret R n0 h cells slots q Ls (.int z :: St) := by
  subst hq hz; exact w.step fun hx hby hat k => XS.imul hat hx rfl (hb hby hd) rfl k
theorem Wk.iand {x y z : Int32} (w : Wk κ l Z own nm code ml ret R n0 h cells slots pc Ls (.int y :: .int x :: St)) (hd : decode code pc = .ok (.iand, 1)) (hz : x &&& y = z) (hq : pc + 1 = q) : Wk κ l Z own nm code ml ret R n0 h cells slots q Ls (.int z :: St) := by
  subst hq hz; exact w.step fun hx hby hat k => XS.iand hat hx rfl (hb hby hd) rfl k
theorem Wk.ior {x y z : Int32} (w : Wk κ l Z own nm code ml ret R n0 h cells slots pc Ls (.int y :: .int x :: St)) (hd : decode code pc = .ok (.ior, 1)) (hz : x ||| y = z) (hq : pc + 1 = q) : Wk κ l Z own nm code ml ret R n0 h cells slots q Ls (.int z :: St) := by
  subst hq hz; exact w.step fun hx hby hat k => XT.ior hat hx rfl (hb hby hd) rfl k
theorem Wk.ixor {x y z : Int32} (w : Wk κ l Z own nm code ml ret R n0 h cells slots pc Ls (.int y :: .int x :: St)) (hd : decode code pc = .ok (.ixor, 1)) (hz : x ^^^ y = z) (hq : pc + 1 = q) : Wk κ l Z own nm code ml ret R n0 h cells slots q Ls (.int z :: St) := by
  subst hq hz; exact w.step fun hx hby hat k => XT.ixor hat hx rfl (hb hby hd) rfl k
theorem Wk.ishl {x y z : Int32} (w : Wk κ l Z own nm code ml ret R n0 h cells slots pc Ls (.int y :: .int x :: St)) (hd : decode code pc = .ok (.ishl, 1)) (hz : x <<< (y &&& 31) = z) (hq : pc + 1 = q) : Wk κ l Z own nm code ml ret R n0 h cells slots q Ls (.int z :: St) := by
  subst hq hz; exact w.step fun hx hby hat k => XT.ishl hat hx rfl (hb hby hd) rfl k
theorem Wk.ishr {x y z : Int32} (w : Wk κ l Z own nm code ml ret R n0 h cells slots pc Ls (.int y :: .int x :: St)) (hd : decode code pc = .ok (.ishr, 1)) (hz : x >>> (y &&& 31) = z) (hq : pc + 1 = q) : Wk κ l Z own nm code ml ret R n0 h cells slots q Ls (.int z :: St) := by
  subst hq hz; exact w.step fun hx hby hat k => XT.ishr hat hx rfl (hb hby hd) rfl k
theorem Wk.iushr {x y z : Int32} (w : Wk κ l Z own nm code ml ret R n0 h cells slots pc Ls (.int y :: .int x :: St)) (hd : decode code pc = .ok (.iushr, 1)) (hz : XT.ushr x y = z) (hq : pc + 1 = q) : Wk κ l Z own nm code ml ret R n0 h cells slots q Ls (.int z :: St) := by
  subst hq hz; exact w.step fun hx hby hat k => XT.iushr hat hx rfl (hb hby hd) rfl k
theorem Wk.idiv {x y z : Int32} (w : Wk κ l Z own nm code ml ret R n0 h cells slots pc Ls (.int y :: .int x :: St)) (hd : decode code pc = .ok (.idiv, 1)) (hy : y ≠ 0) (hz : x / y = z) (hq : pc + 1 = q) : Wk κ l Z own nm code ml ret R n0 h cells slots q Ls (.int z :: St) := by
  subst hq hz; exact w.step fun hx hby hat k => XS.idiv hat hx rfl (hb hby hd) rfl hy k
theorem Wk.ladd {x y z : Int64} (w : Wk κ l Z own nm code ml ret R n0 h cells slots pc Ls (.long y :: .long x :: St)) (hd : decode code pc = .ok (.ladd, 1)) (hz : x + y = z) (hq : pc + 1 = q) : Wk κ l Z own nm code ml ret R n0 h cells slots q Ls (.long z :: St) := by
  subst hq hz; exact w.step fun hx hby hat k => XT.ladd hat hx rfl (hb hby hd) rfl k
theorem Wk.lsub {x y z : Int64} (w : Wk κ l Z own nm code ml ret R n0 h cells slots pc Ls (.long y :: .long x :: St)) (hd : decode code pc = .ok (.lsub, 1)) (hz : x - y = z) (hq : pc + 1 = q) : Wk κ l Z own nm code ml ret R n0 h cells slots q Ls (.long z :: St) := by
  subst hq hz; exact w.step fun hx hby hat k => XT.lsub hat hx rfl (hb hby hd) rfl k
theorem Wk.lmul {x y z : Int64} (w : Wk κ l Z own nm code ml ret R n0 h cells slots pc Ls (.long y :: .long x :: St)) (hd : decode code pc = .ok (.lmul, 1)) (hz : x * y = z) (hq : pc + 1 = q) : Wk κ l Z own nm code ml ret R n0 h cells slots q Ls (.long z :: St) := by
  subst hq hz; exact w.step fun hx hby hat k => XT.lmul hat hx rfl (hb hby hd) rfl k
theorem Wk.land {x y z : Int64} (w : Wk κ l Z own nm code ml ret R n0 h cells slots pc Ls (.long y :: .long x :: St)) (hd : decode code pc = .ok (.land, 1)) (hz : x &&& y = z) (hq : pc + 1 = q) : Wk κ l Z own nm code ml ret R n0 h cells slots q Ls (.long z :: St) := by
  subst hq hz; exact w.step fun hx hby hat k => XT.land hat hx rfl (hb hby hd) rfl k
theorem Wk.lor {x y z : Int64} (w : Wk κ l Z own nm code ml ret R n0 h cells slots pc Ls (.long y :: .long x :: St)) (hd : decode code pc = .ok (.lor, 1)) (hz : x ||| y = z) (hq : pc + 1 = q) : Wk κ l Z own nm code ml ret R n0 h cells slots q Ls (.long z :: St) := by
  subst hq hz; exact w.step fun hx hby hat k => XT.lor hat hx rfl (hb hby hd) rfl k
theorem Wk.lxor {x y z : Int64} (w : Wk κ l Z own nm code ml ret R n0 h cells slots pc Ls (.long y :: .long x :: St)) (hd : decode code pc = .ok (.lxor, 1)) (hz : x ^^^ y = z) (hq : pc + 1 = q) : Wk κ l Z own nm code ml ret R n0 h cells slots q Ls (.long z :: St) := by
  subst hq hz; exact w.step fun hx hby hat k => XT.lxor hat hx rfl (hb hby hd) rfl k
theorem Wk.irem {x y z : Int32} (w : Wk κ l Z own nm code ml ret R n0 h cells slots pc Ls (.int y :: .int x :: St)) (hd : decode code pc = .ok (.irem, 1)) (hy : y ≠ 0) (hz : x % y = z) (hq : pc + 1 = q) : Wk κ l Z own nm code ml ret R n0 h cells slots q Ls (.int z :: St) := by
  subst hq hz; exact w.stepX fun hx hby _ _ X _ k => iremM X hx rfl (hb hby hd) rfl hy k
theorem Wk.lshl {x z : Int64} {y : Int32} (w : Wk κ l Z own nm code ml ret R n0 h cells slots pc Ls (.int y :: .long x :: St)) (hd : decode code pc = .ok (.lshl, 1)) (hz : x <<< (y.toInt64 &&& 63) = z) (hq : pc + 1 = q) : Wk κ l Z own nm code ml ret R n0 h cells slots q Ls (.long z :: St) := by
  subst hq hz; exact w.step fun hx hby hat k => XT.lshl hat hx rfl (hb hby hd) rfl k
theorem Wk.lshr {x z : Int64} {y : Int32} (w : Wk κ l Z own nm code ml ret R n0 h cells slots pc Ls (.int y :: .long x :: St)) (hd : decode code pc = .ok (.lshr, 1)) (hz : x >>> (y.toInt64 &&& 63) = z) (hq : pc + 1 = q) : Wk κ l Z own nm code ml ret R n0 h cells slots q Ls (.long z :: St) := by
  subst hq hz; exact w.step fun hx hby hat k => XT.lshr hat hx rfl (hb hby hd) rfl k
theorem Wk.lushr {x z : Int64} {y : Int32} (w : Wk κ l Z own nm code ml ret R n0 h cells slots pc Ls (.int y :: .long x :: St)) (hd : decode code pc = .ok (.lushr, 1)) (hz : XT.ushrL x y = z) (hq : pc + 1 = q) : Wk κ l Z own nm code ml ret R n0 h cells slots q Ls (.long z :: St) := by
  subst hq hz; exact w.step fun hx hby hat k => XT.lushr hat hx rfl (hb hby hd) rfl k
theorem Wk.lcmp {x y : Int64} {z : Int32} (w : Wk κ l Z own nm code ml ret R n0 h cells slots pc Ls (.long y :: .long x :: St)) (hd : decode code pc = .ok (.lcmp, 1)) (hz : XT.cmpL x y = z) (hq : pc + 1 = q) : Wk κ l Z own nm code ml ret R n0 h cells slots q Ls (.int z :: St) := by
  subst hq hz; exact w.step fun hx hby hat k => XT.lcmp hat hx rfl (hb hby hd) rfl k
theorem Wk.i2l {x : Int32} {z : Int64} (w : Wk κ l Z own nm code ml ret R n0 h cells slots pc Ls (.int x :: St)) (hd : decode code pc = .ok (.i2l, 1)) (hz : x.toInt64 = z) (hq : pc + 1 = q) : Wk κ l Z own nm code ml ret R n0 h cells slots q Ls (.long z :: St) := by
  subst hq hz; exact w.step fun hx hby hat k => XT.i2l hat hx rfl (hb hby hd) rfl k
theorem Wk.l2i {x : Int64} {z : Int32} (w : Wk κ l Z own nm code ml ret R n0 h cells slots pc Ls (.long x :: St)) (hd : decode code pc = .ok (.l2i, 1)) (hz : x.toInt32 = z) (hq : pc + 1 = q) : Wk κ l Z own nm code ml ret R n0 h cells slots q Ls (.int z :: St) := by
  subst hq hz; exact w.step fun hx hby hat k => XT.l2i hat hx rfl (hb hby hd) rfl k
theorem Wk.i2b {x : Int32} {z : Int32} (w : Wk κ l Z own nm code ml ret R n0 h cells slots pc Ls (.int x :: St)) (hd : decode code pc = .ok (.i2b, 1)) (hz : x.toInt8.toInt32 = z) (hq : pc + 1 = q) : Wk κ l Z own nm code ml ret R n0 h cells slots q Ls (.int z :: St) := by
  subst hq hz; exact w.step fun hx hby hat k => XT.i2b hat hx rfl (hb hby hd) rfl k
theorem Wk.i2c {x : Int32} {z : Int32} (w : Wk κ l Z own nm code ml ret R n0 h cells slots pc Ls (.int x :: St)) (hd : decode code pc = .ok (.i2c, 1)) (hz : x.toUInt32.toUInt16.toUInt32.toInt32 = z) (hq : pc + 1 = q) : Wk κ l Z own nm code ml ret R n0 h cells slots q Ls (.int z :: St) := by
  subst hq hz; exact w.step fun hx hby hat k => XT.i2c hat hx rfl (hb hby hd) rfl k
theorem Wk.i2d {x : Int32} {z : UInt64} (w : Wk κ l Z own nm code ml ret R n0 h cells slots pc Ls (.int x :: St)) (hd : decode code pc = .ok (.i2d, 1)) (hz : FP.i2d x = z) (hq : pc + 1 = q) : Wk κ l Z own nm code ml ret R n0 h cells slots q Ls (.double z :: St) := by
  subst hq; exact w.step fun hx hby hat k => XS.i2dS hat hx rfl (hb hby hd) rfl hz k
theorem Wk.dcmp {o : CmpOp} {x y : UInt64} {z : Int32} (w : Wk κ l Z own nm code ml ret R n0 h cells slots pc Ls (.double y :: .double x :: St)) (hd : decode code pc = .ok (.dcmp o, 1)) (hz : cmpValue (FP.dcmp x y) o = z) (hq : pc + 1 = q) : Wk κ l Z own nm code ml ret R n0 h cells slots q Ls (.int z :: St) := by
  subst hq; exact w.step fun hx hby hat k => XS.dcmpS hat hx rfl (hb hby hd) rfl hz k
theorem Wk.dadd {x y z : UInt64} (w : Wk κ l Z own nm code ml ret R n0 h cells slots pc Ls (.double y :: .double x :: St)) (hd : decode code pc = .ok (.dadd, 1)) (hn : Jvm.Free.Fl.NoNaN64 (FP.dadd x y)) (hz : FP.dadd x y = z) (hq : pc + 1 = q) : Wk κ l Z own nm code ml ret R n0 h cells slots q Ls (.double z :: St) := by
  subst hq; exact w.step fun hx hby hat k => XS.daddS hat hx rfl (hb hby hd) rfl hn hz k
theorem Wk.dsub {x y z : UInt64} (w : Wk κ l Z own nm code ml ret R n0 h cells slots pc Ls (.double y :: .double x :: St)) (hd : decode code pc = .ok (.dsub, 1)) (hn : Jvm.Free.Fl.NoNaN64 (FP.dsub x y)) (hz : FP.dsub x y = z) (hq : pc + 1 = q) : Wk κ l Z own nm code ml ret R n0 h cells slots q Ls (.double z :: St) := by
  subst hq; exact w.step fun hx hby hat k => XS.dsubS hat hx rfl (hb hby hd) rfl hn hz k
theorem Wk.ddiv {x y z : UInt64} (w : Wk κ l Z own nm code ml ret R n0 h cells slots pc Ls (.double y :: .double x :: St)) (hd : decode code pc = .ok (.ddiv, 1)) (hn : Jvm.Free.Fl.NoNaN64 (FP.ddiv x y)) (hz : FP.ddiv x y = z) (hq : pc + 1 = q) : Wk κ l Z own nm code ml ret R n0 h cells slots q Ls (.double z :: St) := by
  subst hq; exact w.step fun hx hby hat k => XS.ddivS hat hx rfl (hb hby hd) rfl hn hz k
theorem Wk.goto (w : Wk κ l Z own nm code ml ret R n0 h cells slots pc Ls St) {o : Int} (hd : decode code pc = .ok (.goto o, 3)) (ho : 0 ≤ (pc : Int) + o) (hq : ((pc : Int) + o).toNat = q) : Wk κ l Z own nm code ml ret R n0 h cells slots q Ls St :=
  w.step fun hx hby hat k => XS.goto hat hx rfl rfl (hb hby hd) ho hq k
theorem holdEq (x y : Int32) : if_icmp.holds .eq x y = decide (x.toInt = y.toInt) := by
  show (x == y) = _
  rw [Bool.eq_iff_iff, beq_iff_eq, decide_eq_true_iff, Int32.toInt_inj]
theorem holdNe (x y : Int32) : if_icmp.holds .ne x y = decide (x.toInt ≠ y.toInt) := by
  show (x != y) = _
  rw [Bool.eq_iff_iff, bne_iff_ne, decide_eq_true_iff, ne_eq, ne_eq, Int32.toInt_inj]
theorem holdLt (x y : Int32) : if_icmp.holds .lt x y = decide (x.toInt < y.toInt) := by simp [if_icmp.holds, Int32.lt_iff_toInt_lt, Int32.le_iff_toInt_le, ← Int32.toInt_inj]
theorem holdGe (x y : Int32) : if_icmp.holds .ge x y = decide (y.toInt ≤ x.toInt) := by simp [if_icmp.holds, Int32.lt_iff_toInt_lt, Int32.le_iff_toInt_le, ← Int32.toInt_inj]
theorem holdGt (x y : Int32) : if_icmp.holds .gt x y = decide (y.toInt < x.toInt) := by simp [if_icmp.holds, Int32.lt_iff_toInt_lt, Int32.le_iff_toInt_le, ← Int32.toInt_inj]
theorem holdLe (x y : Int32) : if_icmp.holds .le x y = decide (x.toInt ≤ y.toInt) := by simp [if_icmp.holds, Int32.lt_iff_toInt_lt, Int32.le_iff_toInt_le, ← Int32.toInt_inj]
theorem Wk.icmpEq {x y : Int32} (w : Wk κ l Z own nm code ml ret R n0 h cells slots pc Ls (.int y :: .int x :: St)) {o : Int} {q' : Nat} {xi yi : Int} (hd : decode code pc = .ok (.if_icmp .eq o, 3)) (hx0 : x.toInt = xi) (hy0 : y.toInt = yi) (ho : 0 ≤ (pc : Int) + o) (hq : ((pc : Int) + o).toNat = q) (hq' : pc + 3 = q') : (xi = yi ∧ Wk κ l Z own nm code ml ret R n0 h cells slots q Ls St) ∨ (¬ (xi = yi) ∧ Wk κ l Z own nm code ml ret R n0 h cells slots q' Ls St) := by
  subst hx0 hy0 hq'
  by_cases hc : x.toInt = y.toInt
  · exact Or.inl ⟨hc, w.step fun hx hby hat k => XS.icmpYes hat hx rfl rfl (hb hby hd) rfl (by rw [holdEq]; exact decide_eq_true hc) ho hq k⟩
  · exact Or.inr ⟨hc, w.step fun hx hby hat k => XS.icmpNo hat hx rfl (hb hby hd) rfl (by rw [holdEq]; exact decide_eq_false hc) k⟩
theorem Wk.icmpNe {x y : Int32} (w : Wk κ l Z own nm code ml ret R n0 h cells slots pc Ls (.int y :: .int x :: St)) {o : Int} {q' : Nat} {xi yi : Int} (hd : decode code pc = .ok (.if_icmp .ne o, 3)) (hx0 : x.toInt = xi) (hy0 : y.toInt = yi) (ho : 0 ≤ (pc : Int) + o) (hq : ((pc : Int) + o).toNat = q) (hq' : pc + 3 = q') : (xi ≠ yi ∧ Wk κ l Z own nm code ml ret R n0 h cells slots q Ls St) ∨ (¬ (xi ≠ yi) ∧ Wk κ l Z own nm code ml ret R n0 h cells slots q' Ls St) := by
  subst hx0 hy0 hq'
  by_cases hc : x.toInt ≠ y.toInt
  · exact Or.inl ⟨hc, w.step fun hx hby hat k => XS.icmpYes hat hx rfl rfl (hb hby hd) rfl (by rw [holdNe]; exact decide_eq_true hc) ho hq k⟩
  · exact Or.inr ⟨hc, w.step fun hx hby hat k => XS.icmpNo hat hx rfl (hb hby hd) rfl (by rw [holdNe]; exact decide_eq_false hc) k⟩
theorem Wk.icmpLt {x y : Int32} (w : Wk κ l Z own nm code ml ret R n0 h cells slots pc Ls (.int y :: .int x :: St)) {o : Int} {q' : Nat} {xi yi : Int} (hd : decode code pc = .ok (.if_icmp .lt o, 3)) (hx0 : x.toInt = xi) (hy0 : y.toInt = yi) (ho : 0 ≤ (pc : Int) + o) (hq : ((pc : Int) + o).toNat = q) (hq' : pc + 3 = q') : (xi < yi ∧ Wk κ l Z own nm code ml ret R n0 h cells slots q Ls St) ∨ (¬ (xi < yi) ∧ Wk κ l Z own nm code ml ret R n0 h cells slots q' Ls St) := by
  subst hx0 hy0 hq'
  by_cases hc : x.toInt < y.toInt
  · exact Or.inl ⟨hc, w.step fun hx hby hat k => XS.icmpYes hat hx rfl rfl (hb hby hd) rfl (by rw [holdLt]; exact decide_eq_true hc) ho hq k⟩
  · exact Or.inr ⟨hc, w.step fun hx hby hat k => XS.icmpNo hat hx rfl (hb hby hd) rfl (by rw [holdLt]; exact decide_eq_false hc) k⟩
theorem Wk.icmpGe {x y : Int32} (w : Wk κ l Z own nm code ml ret R n0 h cells slots pc Ls (.int y :: .int x :: St)) {o : Int} {q' : Nat} {xi yi : Int} (hd : decode code pc = .ok (.if_icmp .ge o, 3)) (hx0 : x.toInt = xi) (hy0 : y.toInt = yi) (ho : 0 ≤ (pc : Int) + o) (hq : ((pc : Int) + o).toNat = q) (hq' : pc + 3 = q') : (yi ≤ xi ∧ Wk κ l Z own nm code ml ret R n0 h cells slots q Ls St) ∨ (¬ (yi ≤ xi) ∧ Wk κ l Z own nm code ml ret R n0 h cells slots q' Ls St) := by
  subst hx0 hy0 hq'
  by_cases hc : y.toInt ≤ x.toInt
  · exact Or.inl ⟨hc, w.step fun hx hby hat k => XS.icmpYes hat hx rfl rfl (hb hby hd) rfl (by rw [holdGe]; exact decide_eq_true hc) ho hq k⟩
  · exact Or.inr ⟨hc, w.step fun hx hby hat k => XS.icmpNo hat hx rfl (hb hby hd) rfl (by rw [holdGe]; exact decide_eq_false hc) k⟩
theorem Wk.icmpGt {x y : Int32} (w : Wk κ l Z own nm code ml ret R n0 h cells slots pc Ls (.int y :: .int x :: St)) {o : Int} {q' : Nat} {xi yi : Int} (hd : decode code pc = .ok (.if_icmp .gt o, 3)) (hx0 : x.toInt = xi) (hy0 : y.toInt = yi) (ho : 0 ≤ (pc : Int) + o) (hq : ((pc : Int) + o).toNat = q) (hq' : pc + 3 = q') : (yi < xi ∧ Wk κ l Z own nm code ml ret R n0 h cells slots q Ls St) ∨ (¬ (yi < xi) ∧ Wk κ l Z own nm code ml ret R n0 h cells slots q' Ls St) := by
  subst hx0 hy0 hq'
  by_cases hc : y.toInt < x.toInt
  · exact Or.inl ⟨hc, w.step fun hx hby hat k => XS.icmpYes hat hx rfl rfl (hb hby hd) rfl (by rw [holdGt]; exact decide_eq_true hc) ho hq k⟩
  · exact Or.inr ⟨hc, w.step fun hx hby hat k => XS.icmpNo hat hx rfl (hb hby hd) rfl (by rw [holdGt]; exact decide_eq_false hc) k⟩
theorem Wk.icmpLe {x y : Int32} (w : Wk κ l Z own nm code ml ret R n0 h cells slots pc Ls (.int y :: .int x :: St)) {o : Int} {q' : Nat} {xi yi : Int} (hd : decode code pc = .ok (.if_icmp .le o, 3)) (hx0 : x.toInt = xi) (hy0 : y.toInt = yi) (ho : 0 ≤ (pc : Int) + o) (hq : ((pc : Int) + o).toNat = q) (hq' : pc + 3 = q') : (xi ≤ yi ∧ Wk κ l Z own nm code ml ret R n0 h cells slots q Ls St) ∨ (¬ (xi ≤ yi) ∧ Wk κ l Z own nm code ml ret R n0 h cells slots q' Ls St) := by
  subst hx0 hy0 hq'
  by_cases hc : x.toInt ≤ y.toInt
  · exact Or.inl ⟨hc, w.step fun hx hby hat k => XS.icmpYes hat hx rfl rfl (hb hby hd) rfl (by rw [holdLe]; exact decide_eq_true hc) ho hq k⟩
  · exact Or.inr ⟨hc, w.step fun hx hby hat k => XS.icmpNo hat hx rfl (hb hby hd) rfl (by rw [holdLe]; exact decide_eq_false hc) k⟩
theorem Wk.ifEq {x : Int32} (w : Wk κ l Z own nm code ml ret R n0 h cells slots pc Ls (.int x :: St)) {o : Int} {q' : Nat} {xi : Int} (hd : decode code pc = .ok (.ifCond .eq o, 3)) (hx0 : x.toInt = xi) (ho : 0 ≤ (pc : Int) + o) (hq : ((pc : Int) + o).toNat = q) (hq' : pc + 3 = q') : (xi = 0 ∧ Wk κ l Z own nm code ml ret R n0 h cells slots q Ls St) ∨ (¬ (xi = 0) ∧ Wk κ l Z own nm code ml ret R n0 h cells slots q' Ls St) := by
  subst hx0 hq'
  have h0 : (0 : Int32).toInt = 0 := rfl
  by_cases hc : x.toInt = 0
  · exact Or.inl ⟨hc, w.step fun hx hby hat k => XS.ifYes hat hx rfl rfl (hb hby hd) rfl (by rw [if0, holdEq, h0]; exact decide_eq_true hc) ho hq k⟩
  · exact Or.inr ⟨hc, w.step fun hx hby hat k => XS.ifNo hat hx rfl (hb hby hd) rfl (by rw [if0, holdEq, h0]; exact decide_eq_false hc) k⟩
theorem Wk.ifNe {x : Int32} (w : Wk κ l Z own nm code ml ret R n0 h cells slots pc Ls (.int x :: St)) {o : Int} {q' : Nat} {xi : Int} (hd : decode code pc = .ok (.ifCond .ne o, 3)) (hx0 : x.toInt = xi) (ho : 0 ≤ (pc : Int) + o) (hq : ((pc : Int) + o).toNat = q) (hq' : pc + 3 = q') : (xi ≠ 0 ∧ Wk κ l Z own nm code ml ret R n0 h cells slots q Ls St) ∨ (¬ (xi ≠ 0) ∧ Wk κ l Z own nm code ml ret R n0 h cells slots q' Ls St) := by
  subst hx0 hq'
  have h0 : (0 : Int32).toInt = 0 := rfl
  by_cases hc : x.toInt ≠ 0
  · exact Or.inl ⟨hc, w.step fun hx hby hat k => XS.ifYes hat hx rfl rfl (hb hby hd) rfl (by rw [if0, holdNe, h0]; exact decide_eq_true hc) ho hq k⟩
  · exact Or.inr ⟨hc, w.step fun hx hby hat k => XS.ifNo hat hx rfl (hb hby hd) rfl (by rw [if0, holdNe, h0]; exact decide_eq_false hc) k⟩
theorem Wk.ifLt {x : Int32} (w : Wk κ l Z own nm code ml ret R n0 h cells slots pc Ls (.int x :: St)) {o : Int} {q' : Nat} {xi : Int} (hd : decode code pc = .ok (.ifCond .lt o, 3)) (hx0 : x.toInt = xi) (ho : 0 ≤ (pc : Int) + o) (hq : ((pc : Int) + o).toNat = q) (hq' : pc + 3 = q') : (xi < 0 ∧ Wk κ l Z own nm code ml ret R n0 h cells slots q Ls St) ∨ (¬ (xi < 0) ∧ Wk κ l Z own nm code ml ret R n0 h cells slots q' Ls St) := by
  subst hx0 hq'
  have h0 : (0 : Int32).toInt = 0 := rfl
  by_cases hc : x.toInt < 0
  · exact Or.inl ⟨hc, w.step fun hx hby hat k => XS.ifYes hat hx rfl rfl (hb hby hd) rfl (by rw [if0, holdLt, h0]; exact decide_eq_true hc) ho hq k⟩
  · exact Or.inr ⟨hc, w.step fun hx hby hat k => XS.ifNo hat hx rfl (hb hby hd) rfl (by rw [if0, holdLt, h0]; exact decide_eq_false hc) k⟩
theorem Wk.ifGe {x : Int32} (w : Wk κ l Z own nm code ml ret R n0 h cells slots pc Ls (.int x :: St)) {o : Int} {q' : Nat} {xi : Int} (hd : decode code pc = .ok (.ifCond .ge o, 3)) (hx0 : x.toInt = xi) (ho : 0 ≤ (pc : Int) + o) (hq : ((pc : Int) + o).toNat = q) (hq' : pc + 3 = q') : (0 ≤ xi ∧ Wk κ l Z own nm code ml ret R n0 h cells slots q Ls St) ∨ (¬ (0 ≤ xi) ∧ Wk κ l Z own nm code ml ret R n0 h cells slots q' Ls St) := by
  subst hx0 hq'
  have h0 : (0 : Int32).toInt = 0 := rfl
  by_cases hc : 0 ≤ x.toInt
  · exact Or.inl ⟨hc, w.step fun hx hby hat k => XS.ifYes hat hx rfl rfl (hb hby hd) rfl (by rw [if0, holdGe, h0]; exact decide_eq_true hc) ho hq k⟩
  · exact Or.inr ⟨hc, w.step fun hx hby hat k => XS.ifNo hat hx rfl (hb hby hd) rfl (by rw [if0, holdGe, h0]; exact decide_eq_false hc) k⟩
theorem Wk.ifGt {x : Int32} (w : Wk κ l Z own nm code ml ret R n0 h cells slots pc Ls (.int x :: St)) {o : Int} {q' : Nat} {xi : Int} (hd : decode code pc = .ok (.ifCond .gt o, 3)) (hx0 : x.toInt = xi) (ho : 0 ≤ (pc : Int) + o) (hq : ((pc : Int) + o).toNat = q) (hq' : pc + 3 = q') : (0 < xi ∧ Wk κ l Z own nm code ml ret R n0 h cells slots q Ls St) ∨ (¬ (0 < xi) ∧ Wk κ l Z own nm code ml ret R n0 h cells slots q' Ls St) := by
  subst hx0 hq'
  have h0 : (0 : Int32).toInt = 0 := rfl
  by_cases hc : 0 < x.toInt
  · exact Or.inl ⟨hc, w.step fun hx hby hat k => XS.ifYes hat hx rfl rfl (hb hby hd) rfl (by rw [if0, holdGt, h0]; exact decide_eq_true hc) ho hq k⟩
  · exact Or.inr ⟨hc, w.step fun hx hby hat k => XS.ifNo hat hx rfl (hb hby hd) rfl (by rw [if0, holdGt, h0]; exact decide_eq_false hc) k⟩
theorem Wk.ifLe {x : Int32} (w : Wk κ l Z own nm code ml ret R n0 h cells slots pc Ls (.int x :: St)) {o : Int} {q' : Nat} {xi : Int} (hd : decode code pc = .ok (.ifCond .le o, 3)) (hx0 : x.toInt = xi) (ho : 0 ≤ (pc : Int) + o) (hq : ((pc : Int) + o).toNat = q) (hq' : pc + 3 = q') : (xi ≤ 0 ∧ Wk κ l Z own nm code ml ret R n0 h cells slots q Ls St) ∨ (¬ (xi ≤ 0) ∧ Wk κ l Z own nm code ml ret R n0 h cells slots q' Ls St) := by
  subst hx0 hq'
  have h0 : (0 : Int32).toInt = 0 := rfl
  by_cases hc : x.toInt ≤ 0
  · exact Or.inl ⟨hc, w.step fun hx hby hat k => XS.ifYes hat hx rfl rfl (hb hby hd) rfl (by rw [if0, holdLe, h0]; exact decide_eq_true hc) ho hq k⟩
  · exact Or.inr ⟨hc, w.step fun hx hby hat k => XS.ifNo hat hx rfl (hb hby hd) rfl (by rw [if0, holdLe, h0]; exact decide_eq_false hc) k⟩
theorem Wk.acmpEq {x y : Value} (w : Wk κ l Z own nm code ml ret R n0 h cells slots pc Ls (y :: x :: St)) {o : Int} {q' : Nat} (hd : decode code pc = .ok (.if_acmp .eq o, 3)) (hx' : x.isRef = true) (hy' : y.isRef = true) (ho : 0 ≤ (pc : Int) + o) (hq : ((pc : Int) + o).toNat = q) (hq' : pc + 3 = q') : (x = y ∧ Wk κ l Z own nm code ml ret R n0 h cells slots q Ls St) ∨ (¬ (x = y) ∧ Wk κ l Z own nm code ml ret R n0 h cells slots q' Ls St) := by
  subst hq'
  by_cases hc : x = y
  · exact Or.inl ⟨hc, w.step fun hx hby hat k => XT.acmpYes hat hx rfl rfl (hb hby hd) rfl hx' hy' (by simpa [XT.acmp] using hc) ho hq k⟩
  · exact Or.inr ⟨hc, w.step fun hx hby hat k => XT.acmpNo hat hx rfl (hb hby hd) rfl hx' hy' (by simpa [XT.acmp] using hc) k⟩
theorem Wk.acmpNe {x y : Value} (w : Wk κ l Z own nm code ml ret R n0 h cells slots pc Ls (y :: x :: St)) {o : Int} {q' : Nat} (hd : decode code pc = .ok (.if_acmp .ne o, 3)) (hx' : x.isRef = true) (hy' : y.isRef = true) (ho : 0 ≤ (pc : Int) + o) (hq : ((pc : Int) + o).toNat = q) (hq' : pc + 3 = q') : (x ≠ y ∧ Wk κ l Z own nm code ml ret R n0 h cells slots q Ls St) ∨ (¬ (x ≠ y) ∧ Wk κ l Z own nm code ml ret R n0 h cells slots q' Ls St) := by
  subst hq'
  by_cases hc : x ≠ y
  · exact Or.inl ⟨hc, w.step fun hx hby hat k => XT.acmpYes hat hx rfl rfl (hb hby hd) rfl hx' hy' (by simpa [XT.acmp] using hc) ho hq k⟩
  · exact Or.inr ⟨hc, w.step fun hx hby hat k => XT.acmpNo hat hx rfl (hb hby hd) rfl hx' hy' (by simpa [XT.acmp] using hc) k⟩
theorem Wk.acmpEqR {a b : Nat} (w : Wk κ l Z own nm code ml ret R n0 h cells slots pc Ls (.ref b :: .ref a :: St)) {o : Int} {q' : Nat} (hd : decode code pc = .ok (.if_acmp .eq o, 3)) (ho : 0 ≤ (pc : Int) + o) (hq : ((pc : Int) + o).toNat = q) (hq' : pc + 3 = q') : (a = b ∧ Wk κ l Z own nm code ml ret R n0 h cells slots q Ls St) ∨ (¬ (a = b) ∧ Wk κ l Z own nm code ml ret R n0 h cells slots q' Ls St) :=
  (w.acmpEq hd rfl rfl ho hq hq').imp (fun g => ⟨Value.ref.inj g.1, g.2⟩) (fun g => ⟨fun e => g.1 (congrArg Value.ref e), g.2⟩)
theorem Wk.acmpNeR {a b : Nat} (w : Wk κ l Z own nm code ml ret R n0 h cells slots pc Ls (.ref b :: .ref a :: St)) {o : Int} {q' : Nat} (hd : decode code pc = .ok (.if_acmp .ne o, 3)) (ho : 0 ≤ (pc : Int) + o) (hq : ((pc : Int) + o).toNat = q) (hq' : pc + 3 = q') : (a ≠ b ∧ Wk κ l Z own nm code ml ret R n0 h cells slots q Ls St) ∨ (¬ (a ≠ b) ∧ Wk κ l Z own nm code ml ret R n0 h cells slots q' Ls St) :=
  (w.acmpNe hd rfl rfl ho hq hq').imp (fun g => ⟨fun e => g.1 (congrArg Value.ref e), g.2⟩) (fun g => ⟨fun e => g.1 fun e' => e (Value.ref.inj e'), g.2⟩)
/-- a field of the start, by the case's own words -/
theorem fld_of_eq {args : Array Value} {s : State} {t : Term} {C n d : String} {k : Int32} {a : Nat} (hh : (Cond.eq (Term.field t C n d) (Term.int k)).value args s none s [] = some true) (ht : t.eval args s none [] s = some (.ref a)) : Fld s s.heap a C n d (.int k) := by
  obtain ⟨x, y, ex, ey, k1, k2⟩ := cmp_v (Or.inl hh)
  obtain rfl : y = .int k := (Option.some.inj (ey.symm.trans (Term.int_eval k)))
  obtain ⟨z, rfl⟩ := k2
  obtain rfl : z = k := gotT (Cond.eq_ints ex ey) hh
  exact Fld.start (by rw [← fld_at ht]; exact ex)
/-! returns -/
theorem Wk.retI {x : Int32} (w : Wk κ l Z own nm code ml (some .int) R n0 h cells slots pc Ls (.int x :: St)) {Q : Option Value → Heap → Prop} {C S : Nat} (hd : decode code pc = .ok (.ireturn, 1)) (hQ : Q (some (.int x)) h) (hc : cells ≤ C) (hs : slots ≤ S) : Dn κ n0 Q C S := by
  obtain ⟨p, e, s, m, args, below, meth, c, S0⟩ := κ
  obtain ⟨⟨hx, hby, hml, hret, hlk, hnm, hZ, hown⟩, T, locs, X, N, eT, st⟩ := w
  obtain ⟨fs, hr, hrun, hended, hW, hsame⟩ := X.leave (v := some (.int x)) (fun hh => by rw [hret] at hh; cases hh) hlk
  exact ⟨_, _, st _ (retOut X hx hret rfl (Or.inl ⟨rfl, Or.inl rfl, _, rfl⟩) (hb hby hd) hr), hrun, hended, _, _, rfl, ⟨by rw [show (T.setFrames fs).heap = h from eT]; exact hQ, N⟩, ⟨_, rfl⟩, hW, hsame.mono hc hs⟩
theorem Wk.retZ {x z : Int32} (w : Wk κ l Z own nm code ml (some .boolean) R n0 h cells slots pc Ls (.int x :: St)) {Q : Option Value → Heap → Prop} {C S : Nat} (hd : decode code pc = .ok (.ireturn, 1)) (hz : x &&& 1 = z) (hQ : Q (some (.int z)) h) (hc : cells ≤ C) (hs : slots ≤ S) : Dn κ n0 Q C S := by
  obtain ⟨p, e, s, m, args, below, meth, c, S0⟩ := κ
  obtain ⟨⟨hx, hby, hml, hret, hlk, hnm, hZ, hown⟩, T, locs, X, N, eT, st⟩ := w
  subst hz
  obtain ⟨fs, hr, hrun, hended, hW, hsame⟩ := X.leave (v := some (.int (nar .boolean x))) (fun hh => by rw [hret] at hh; cases hh) hlk
  exact ⟨_, _, st _ (retN X hx hret (by simp) (hb hby hd) hr), hrun, hended, _, _, rfl, ⟨by rw [show (T.setFrames fs).heap = h from eT]; exact hQ, N⟩, ⟨_, rfl⟩, hW, hsame.mono hc hs⟩
theorem Wk.retJ {x : Int64} (w : Wk κ l Z own nm code ml (some .long) R n0 h cells slots pc Ls (.long x :: St)) {Q : Option Value → Heap → Prop} {C S : Nat} (hd : decode code pc = .ok (.lreturn, 1)) (hQ : Q (some (.long x)) h) (hc : cells ≤ C) (hs : slots ≤ S) : Dn κ n0 Q C S := by
  obtain ⟨p, e, s, m, args, below, meth, c, S0⟩ := κ
  obtain ⟨⟨hx, hby, hml, hret, hlk, hnm, hZ, hown⟩, T, locs, X, N, eT, st⟩ := w
  obtain ⟨fs, hr, hrun, hended, hW, hsame⟩ := X.leave (v := some (.long x)) (fun hh => by rw [hret] at hh; cases hh) hlk
  exact ⟨_, _, st _ (retOut X hx hret rfl (Or.inr (Or.inl ⟨rfl, rfl, _, rfl⟩)) (hb hby hd) hr), hrun, hended, _, _, rfl, ⟨by rw [show (T.setFrames fs).heap = h from eT]; exact hQ, N⟩, ⟨_, rfl⟩, hW, hsame.mono hc hs⟩
theorem Wk.retD {x : UInt64} (w : Wk κ l Z own nm code ml (some .double) R n0 h cells slots pc Ls (.double x :: St)) {Q : Option Value → Heap → Prop} {C S : Nat} (hd : decode code pc = .ok (.dreturn, 1)) (hQ : Q (some (.double x)) h) (hc : cells ≤ C) (hs : slots ≤ S) : Dn κ n0 Q C S := by
  obtain ⟨p, e, s, m, args, below, meth, c, S0⟩ := κ
  obtain ⟨⟨hx, hby, hml, hret, hlk, hnm, hZ, hown⟩, T, locs, X, N, eT, st⟩ := w
  obtain ⟨fs, hr, hrun, hended, hW, hsame⟩ := X.leave (v := some (.double x)) (fun hh => by rw [hret] at hh; cases hh) hlk
  exact ⟨_, _, st _ (retOut X hx hret rfl (Or.inr (Or.inr (Or.inl ⟨rfl, rfl, _, rfl⟩))) (hb hby hd) hr), hrun, hended, _, _, rfl, ⟨by rw [show (T.setFrames fs).heap = h from eT]; exact hQ, N⟩, ⟨_, rfl⟩, hW, hsame.mono hc hs⟩
theorem Wk.retA {rt : FieldType} {v : Value} (w : Wk κ l Z own nm code ml (some rt) R n0 h cells slots pc Ls (v :: St)) {Q : Option Value → Heap → Prop} {C S : Nat} (hd : decode code pc = .ok (.areturn, 1)) (hrt : rt.isReference = true) (hn : narrow rt v = v) (hv : v.isRef = true) (hQ : Q (some v) h) (hc : cells ≤ C) (hs : slots ≤ S) : Dn κ n0 Q C S := by
  obtain ⟨p, e, s, m, args, below, meth, c, S0⟩ := κ
  obtain ⟨⟨hx, hby, hml, hret, hlk, hnm, hZ, hown⟩, T, locs, X, N, eT, st⟩ := w
  obtain ⟨fs, hr, hrun, hended, hW, hsame⟩ := X.leave (v := some v) (fun hh => by rw [hret] at hh; cases hh) hlk
  exact ⟨_, _, st _ (retOut X hx hret hn (Or.inr (Or.inr (Or.inr (Or.inr ⟨rfl, hrt, hv⟩)))) (hb hby hd) hr), hrun, hended, _, _, rfl, ⟨by rw [show (T.setFrames fs).heap = h from eT]; exact hQ, N⟩, ⟨_, rfl⟩, hW, hsame.mono hc hs⟩
theorem Wk.retV (w : Wk κ l Z own nm code ml none R n0 h cells slots pc Ls []) {Q : Option Value → Heap → Prop} {C S : Nat} (hd : decode code pc = .ok (.return_, 1)) (hQ : Q none h) (hc : cells ≤ C) (hs : slots ≤ S) : Dn κ n0 Q C S := by
  obtain ⟨p, e, s, m, args, below, meth, c, S0⟩ := κ
  obtain ⟨⟨hx, hby, hml, hret, hlk, hnm, hZ, hown⟩, T, locs, X, N, eT, st⟩ := w
  obtain ⟨fs, hr, hrun, hended, hW, hsame⟩ := X.leave (v := none) (fun hh => rfl) hlk
  exact ⟨_, _, st _ (X.returnOut hx hret (hb hby hd) hr), hrun, hended, _, _, rfl, ⟨by rw [show (T.setFrames fs).heap = h from eT]; exact hQ, N⟩, ⟨_, rfl⟩, hW, hsame.mono hc hs⟩
/-! the heap -/
theorem Wk.getF {a : Nat} (w : Wk κ l Z own nm code ml ret R n0 h cells slots pc Ls (.ref a :: St)) {O n d : String} {i : Nat} {v : Value} (wd : (Cond.fieldLink own i O n d).before a0 Z = true) (F : Fld Z h a O n d v) (hd : decode code pc = .ok (.getfield i, 3)) (hq : pc + 3 = q) : Wk κ l Z own nm code ml ret R n0 h cells slots q Ls (v :: St) := by
  subst hq; exact w.stepT fun hx hby _ hZ hown X eT => Jvm.RoadKit.getF X hx hZ hown (host := "") (Or.inl wd) Via.refl eT F (g := mkF _ pc Ls _) rfl rfl (hb hby hd)
theorem Wk.getS (w : Wk κ l Z own nm code ml ret R n0 h cells slots pc Ls St) {O n d : String} {i : Nat} {v : Value} (wd : (Cond.fieldLink own i O n d).before a0 Z = true) (F : Sta Z h O n d v) (hd : decode code pc = .ok (.getstatic i, 3)) (hq : pc + 3 = q) : Wk κ l Z own nm code ml ret R n0 h cells slots q Ls (v :: St) := by
  subst hq; exact w.stepT fun hx hby _ hZ hown X eT => Jvm.RoadKit.getS X hx hZ hown (host := "") wd Via.refl eT F (g := mkF _ pc Ls _) rfl (hb hby hd)
theorem Wk.putF {a : Nat} {v old : Value} (w : Wk κ l Z own nm code ml ret R n0 h cells slots pc Ls (v :: .ref a :: St)) {O n d C : String} {i kk : Nat} {ty : FieldType} (wd : (Cond.fieldLink own i O n d).before a0 Z = true) (F : Fld Z h a O n d old) (E : Exa Z h a C) (L : (Cond.lays C O n d).before a0 Z = true ∨ ((Cond.laysFinal C O n d).before a0 Z = true ∧ own = O ∧ nm = "<init>")) (wi : (Cond.instantiable C kk).before a0 Z = true)
    (hty : parseFieldDescriptor d = some ty) (hn : narrow ty v = v) (hf : fits ty v = true) (hd : decode code pc = .ok (.putfield i, 3)) (ge : n0 ≤ a) (hq : pc + 3 = q) : ∃ h', Wr h h' a (Jvm.RoadKit.slotOf Z O n d) v ∧ Wk κ l Z own nm code ml ret R n0 h' cells slots q Ls St := by
  obtain ⟨p, e, s, m, args, below, meth, c, S0⟩ := κ
  obtain ⟨hs, T, locs, X, N, eT, st⟩ := w
  subst hq
  obtain ⟨T', h', X', e', W, st'⟩ := Jvm.RoadKit.putF X hs.1 hs.2.2.2.2.2.2.1 hs.2.2.2.2.2.2.2 (host := "") (Or.inl wd) Via.refl eT F E (L.imp id fun q => ⟨q.1, q.2.1, hs.2.2.2.2.2.1.trans q.2.2⟩) wi hty hn hf (g := mkF m pc Ls _) rfl rfl (hb hs.2.1 hd)
  exact ⟨h', W, hs, T', _, X', Fr.snoc X' N ge, e', fun t k => st t (st' t k)⟩
theorem Wk.newO (w : Wk κ l Z own nm code ml ret R n0 h cells slots pc Ls St) {C : String} {i n : Nat} (w1 : (Cond.classLink own i C).before a0 Z = true) (w2 : (Cond.instantiable C n).before a0 Z = true) (w3 : (Cond.initialized C).before a0 Z = true) (hd : decode code pc = .ok (.new i, 3)) (hc : cells + 1 ≤ R.cells) (hl : slots + n ≤ R.slots) (hq : pc + 3 = q) :
    ∃ (h' : Heap) (a : Nat), a = h.size ∧ Ext h h' ∧ Exa Z h' a C ∧ (∀ {O nm d : String} {ty : FieldType}, Laid Z a0 C O nm d → parseFieldDescriptor d = some ty → Fld Z h' a O nm d (defaultValue ty)) ∧ Wk κ l Z own nm code ml ret R n0 h' (cells + 1) (slots + n) q Ls (.ref a :: St) := by
  obtain ⟨p, e, s, m, args, below, meth, c, S0⟩ := κ
  obtain ⟨hs, T, locs, X, N, eT, st⟩ := w
  subst hq
  obtain ⟨T', h', X', e', E, A, D, -, st'⟩ := Jvm.RoadKit.newO X hs.1 hs.2.2.2.2.2.2.1 hs.2.2.2.2.2.2.2 w1 w2 w3 eT (g := mkF m pc Ls St) rfl (hb hs.2.1 hd) hc hl
  exact ⟨h', _, rfl, E, A, D, hs, T', _, X', N, e', fun t k => st t (st' t k)⟩
theorem Wk.newP {z : Int32} (w : Wk κ l Z own nm code ml ret R n0 h cells slots pc Ls (.int z :: St)) {aty : ArrayType} {ty : FieldType} (w1 : (Cond.arrayClass ty).before a0 Z = true) (hty : newarray.typeOf aty = ty) (hd : decode code pc = .ok (.newarray aty, 2)) (hn : ¬ z < 0) {cap : Nat} (hcap : z.toNatClampNeg ≤ cap) (hbig : cap * 8 ≤ 536870912) (hc : cells + 1 ≤ R.cells) (hl : slots + cap ≤ R.slots) (hq : pc + 2 = q) :
    ∃ (h' : Heap) (a : Nat) (cA : ClassId), a = h.size ∧ Ext h h' ∧ Arr Z h' a (newA cA ty z) ty ∧ Wk κ l Z own nm code ml ret R n0 h' (cells + 1) (slots + cap) q Ls (.ref a :: St) := by
  obtain ⟨p, e, s, m, args, below, meth, c, S0⟩ := κ
  obtain ⟨hs, T, locs, X, N, eT, st⟩ := w
  subst hq hty
  obtain ⟨T', h', cA, X', e', E, A, st'⟩ := Jvm.RoadKit.newP X hs.1 hs.2.2.2.2.2.2.1 w1 eT (g := mkF m pc Ls _) rfl (hb hs.2.1 hd) rfl hn hcap hbig hc hl
  exact ⟨h', _, cA, rfl, E, A, hs, T', _, X', N, e', fun t k => st t (st' t k)⟩
theorem Wk.newR {z : Int32} (w : Wk κ l Z own nm code ml ret R n0 h cells slots pc Ls (.int z :: St)) {C : String} {i : Nat} (w1 : (Cond.classLink own i C).before a0 Z = true) (w2 : (Cond.arrayOver (.object C)).before a0 Z = true) (hd : decode code pc = .ok (.anewarray i, 3)) (hn : ¬ z < 0) {cap : Nat} (hcap : z.toNatClampNeg ≤ cap) (hbig : cap * 8 ≤ 536870912) (hc : cells + 1 ≤ R.cells) (hl : slots + cap ≤ R.slots) (hq : pc + 3 = q) :
    ∃ (h' : Heap) (a : Nat) (cA : ClassId), a = h.size ∧ Ext h h' ∧ Arr Z h' a (newA cA (.object C) z) (.object C) ∧ Ovr Z cA C ∧ Wk κ l Z own nm code ml ret R n0 h' (cells + 1) (slots + cap) q Ls (.ref a :: St) := by
  obtain ⟨p, e, s, m, args, below, meth, c, S0⟩ := κ
  obtain ⟨hs, T, locs, X, N, eT, st⟩ := w
  subst hq
  obtain ⟨T', h', cA, X', e', E, A, O, st'⟩ := Jvm.RoadKit.newR X hs.1 hs.2.2.2.2.2.2.1 hs.2.2.2.2.2.2.2 w1 w2 eT (g := mkF m pc Ls _) rfl (hb hs.2.1 hd) rfl hn hcap hbig hc hl
  exact ⟨h', _, cA, rfl, E, A, O, hs, T', _, X', N, e', fun t k => st t (st' t k)⟩
theorem Wk.stI {a : Nat} {j x : Int32} (w : Wk κ l Z own nm code ml ret R n0 h cells slots pc Ls (.int x :: .int j :: .ref a :: St)) {cl : Cell} (A : Arr Z h a cl .int) (hj : ¬ (j < 0 ∨ cl.slots.size ≤ j.toNatClampNeg)) (hd : decode code pc = .ok (.iastore, 1)) (ge : n0 ≤ a) (hq : pc + 1 = q) : ∃ h', Wr h h' a j.toNatClampNeg (.int x) ∧ Wk κ l Z own nm code ml ret R n0 h' cells slots q Ls St := by
  obtain ⟨p, e, s, m, args, below, meth, c, S0⟩ := κ
  obtain ⟨hs, T, locs, X, N, eT, st⟩ := w
  subst hq
  obtain ⟨T', h', X', e', W, st'⟩ := Jvm.RoadKit.stI X hs.1 hs.2.2.2.2.2.2.1 eT A hj (g := mkF m pc Ls _) rfl rfl (hb hs.2.1 hd)
  exact ⟨h', W, hs, T', _, X', Fr.snoc X' N ge, e', fun t k => st t (st' t k)⟩
theorem Wk.stB {a : Nat} {j x : Int32} (w : Wk κ l Z own nm code ml ret R n0 h cells slots pc Ls (.int x :: .int j :: .ref a :: St)) {cl : Cell} (A : Arr Z h a cl .byte) (hj : ¬ (j < 0 ∨ cl.slots.size ≤ j.toNatClampNeg)) (hd : decode code pc = .ok (.bastore, 1)) (ge : n0 ≤ a) (hq : pc + 1 = q) : ∃ h', Wr h h' a j.toNatClampNeg (.int (nar .byte x)) ∧ Wk κ l Z own nm code ml ret R n0 h' cells slots q Ls St := by
  obtain ⟨p, e, s, m, args, below, meth, c, S0⟩ := κ
  obtain ⟨hs, T, locs, X, N, eT, st⟩ := w
  subst hq
  obtain ⟨T', h', X', e', W, st'⟩ := Jvm.RoadKit.stB X hs.1 hs.2.2.2.2.2.2.1 eT A hj (g := mkF m pc Ls _) rfl rfl (hb hs.2.1 hd)
  exact ⟨h', W, hs, T', _, X', Fr.snoc X' N ge, e', fun t k => st t (st' t k)⟩
theorem Wk.stD {a : Nat} {j : Int32} {x : UInt64} (w : Wk κ l Z own nm code ml ret R n0 h cells slots pc Ls (.double x :: .int j :: .ref a :: St)) {cl : Cell} (A : Arr Z h a cl .double) (hj : ¬ (j < 0 ∨ cl.slots.size ≤ j.toNatClampNeg)) (hd : decode code pc = .ok (.dastore, 1)) (ge : n0 ≤ a) (hq : pc + 1 = q) : ∃ h', Wr h h' a j.toNatClampNeg (.double x) ∧ Wk κ l Z own nm code ml ret R n0 h' cells slots q Ls St := by
  obtain ⟨p, e, s, m, args, below, meth, c, S0⟩ := κ
  obtain ⟨hs, T, locs, X, N, eT, st⟩ := w
  subst hq
  obtain ⟨T', h', X', e', W, st'⟩ := Jvm.RoadKit.stD X hs.1 hs.2.2.2.2.2.2.1 eT A hj (g := mkF m pc Ls _) rfl rfl (hb hs.2.1 hd)
  exact ⟨h', W, hs, T', _, X', Fr.snoc X' N ge, e', fun t k => st t (st' t k)⟩
theorem Wk.stR {a : Nat} {j : Int32} {v : Value} (w : Wk κ l Z own nm code ml ret R n0 h cells slots pc Ls (v :: .int j :: .ref a :: St)) {cl : Cell} {ty : FieldType} (A : Arr Z h a cl ty) (hj : ¬ (j < 0 ∨ cl.slots.size ≤ j.toNatClampNeg)) (hty : ty.isReference = true) (F : Sto Z h a v) (hd : decode code pc = .ok (.aastore, 1)) (ge : n0 ≤ a) (hq : pc + 1 = q) : ∃ h', Wr h h' a j.toNatClampNeg v ∧ Wk κ l Z own nm code ml ret R n0 h' cells slots q Ls St := by
  obtain ⟨p, e, s, m, args, below, meth, c, S0⟩ := κ
  obtain ⟨hs, T, locs, X, N, eT, st⟩ := w
  subst hq
  obtain ⟨T', h', X', e', W, st'⟩ := Jvm.RoadKit.stR X hs.1 hs.2.2.2.2.2.2.1 eT A hj hty F (g := mkF m pc Ls _) rfl rfl (hb hs.2.1 hd)
  exact ⟨h', W, hs, T', _, X', Fr.snoc X' N ge, e', fun t k => st t (st' t k)⟩
theorem Wk.ldI {a : Nat} {j : Int32} {v : Value} (w : Wk κ l Z own nm code ml ret R n0 h cells slots pc Ls (.int j :: .ref a :: St)) {cl : Cell} (A : Arr Z h a cl .int) (hj : ¬ (j < 0 ∨ cl.slots.size ≤ j.toNatClampNeg)) (hv : cl.slots[j.toNatClampNeg]? = some v) (hd : decode code pc = .ok (.iaload, 1)) (hq : pc + 1 = q) : Wk κ l Z own nm code ml ret R n0 h cells slots q Ls (v :: St) := by
  subst hq; exact w.stepX fun hx hby hZ _ X eT k => X.iaload hx (j := j) (v := v) (by rw [eT]; exact A.1) (State.isArrayOf_alike hZ.alike A.2.1) A.2.2 hj hv (g := mkF _ pc Ls _) rfl rfl (hb hby hd) _ k
theorem Wk.ldB {a : Nat} {j : Int32} {v : Value} (w : Wk κ l Z own nm code ml ret R n0 h cells slots pc Ls (.int j :: .ref a :: St)) {cl : Cell} (A : Arr Z h a cl .byte) (hj : ¬ (j < 0 ∨ cl.slots.size ≤ j.toNatClampNeg)) (hv : cl.slots[j.toNatClampNeg]? = some v) (hd : decode code pc = .ok (.baload, 1)) (hq : pc + 1 = q) : Wk κ l Z own nm code ml ret R n0 h cells slots q Ls (v :: St) := by
  subst hq; exact w.stepX fun hx hby hZ _ X eT k => X.baloadBytes hx (j := j) (v := v) (by rw [eT]; exact A.1) (State.isArrayOf_alike hZ.alike A.2.1) A.2.2 hj hv (g := mkF _ pc Ls _) rfl rfl (hb hby hd) _ k
theorem Wk.ldD {a : Nat} {j : Int32} {v : Value} (w : Wk κ l Z own nm code ml ret R n0 h cells slots pc Ls (.int j :: .ref a :: St)) {cl : Cell} (A : Arr Z h a cl .double) (hj : ¬ (j < 0 ∨ cl.slots.size ≤ j.toNatClampNeg)) (hv : cl.slots[j.toNatClampNeg]? = some v) (hd : decode code pc = .ok (.daload, 1)) (hq : pc + 1 = q) : Wk κ l Z own nm code ml ret R n0 h cells slots q Ls (v :: St) := by
  subst hq; exact w.stepX fun hx hby hZ _ X eT k => X.daload hx (j := j) (v := v) (by rw [eT]; exact A.1) (State.isArrayOf_alike hZ.alike A.2.1) A.2.2 hj hv (g := mkF _ pc Ls _) rfl rfl (hb hby hd) _ k
theorem Wk.ldR {a : Nat} {j : Int32} {v : Value} (w : Wk κ l Z own nm code ml ret R n0 h cells slots pc Ls (.int j :: .ref a :: St)) {cl : Cell} {ty : FieldType} (A : Arr Z h a cl ty) (hty : ty.isReference = true) (hj : ¬ (j < 0 ∨ cl.slots.size ≤ j.toNatClampNeg)) (hv : cl.slots[j.toNatClampNeg]? = some v) (hd : decode code pc = .ok (.aaload, 1)) (hq : pc + 1 = q) : Wk κ l Z own nm code ml ret R n0 h cells slots q Ls (v :: St) := by
  subst hq; exact w.stepX fun hx hby hZ _ X eT k => X.aaload hx (j := j) (v := v) (by rw [eT]; exact A.1) (State.isArrayOf_alike hZ.alike A.2.1) hty A.2.2 hj hv (g := mkF _ pc Ls _) rfl rfl (hb hby hd) _ k
theorem Wk.len {a : Nat} {z : Int32} (w : Wk κ l Z own nm code ml ret R n0 h cells slots pc Ls (.ref a :: St)) {cl : Cell} {ty : FieldType} (A : Arr Z h a cl ty) (hz : cl.slots.size.toInt32 = z) (hd : decode code pc = .ok (.arraylength, 1)) (hq : pc + 1 = q) : Wk κ l Z own nm code ml ret R n0 h cells slots q Ls (.int z :: St) := by
  subst hq hz; exact w.stepX fun hx hby hZ _ X eT k => X.arraylength hx (by rw [eT]; exact A.1) (State.isArrayOf_alike hZ.alike A.2.1) (g := mkF _ pc Ls _) rfl rfl (hb hby hd) _ k
/-! calls -/
theorem Wk.initO {a : Nat} (w : Wk κ l Z own nm code ml ret R n0 h cells slots pc Ls (.ref a :: St)) {i : Nat} (w1 : (Cond.methodLink own i Lib.objectInit).before a0 Z = true) (w2 : (Cond.instanceMethod Lib.objectInit).before a0 Z = true) (w3 : (Cond.code Lib.objectInit ⟨#[0xb1]⟩ 1 none).before a0 Z = true) (hd : decode code pc = .ok (.invokespecial i, 3)) (hsz : Ls.size = ml) (hf : 1 ≤ R.frames) {W : Nat} (hW : (St.map fun v => v.category).sum ≤ W) (hl : W + 12 ≤ R.locals) (hq : pc + 3 = q) : Wk κ l Z own nm code ml ret R n0 h cells slots q Ls St := by
  subst hq; exact w.stepT fun hx hby hml hZ hown X eT => Jvm.RoadKit.initO X hx hZ hown w1 w2 w3 eT (g := mkF _ pc Ls _) rfl (hsz.trans hml.symm) rfl (hb hby hd) hf (W := W) (by show 2 * 0 + _ ≤ _; omega) hl
theorem Wk.callS (w : Wk κ l Z own nm code ml ret R n0 h cells slots pc Ls St) {y : MethodName} {i : Nat} {by0 : ByteArray} {ml' : Nat} {rt : Option FieldType} {rm : Room} {Q : Option Value → Heap → Prop} {argsL rest : List Value} (hM : Met l Z y by0 ml' rt rm n0 argsL.toArray h Q)
    (w1 : (Cond.methodLink own i y).before a0 Z = true) (w2 : (Cond.static y).before a0 Z = true) (w3 : (Cond.initialized y.cls).before a0 Z = true) (w4 : (Cond.code y by0 ml' rt).before a0 Z = true) (hy : y.cls ≠ "java/lang/invoke/MethodHandle" ∧ y.cls ≠ "java/lang/invoke/VarHandle")
    (hd : decode code pc = .ok (.invokestatic i, 3)) (hlen : ∀ sig, parseMethodDescriptor y.desc = some sig → argsL.length = sig.parameters.length) (hst : St = argsL.reverse ++ rest) (hsz : Ls.size = ml) (hf : rm.frames + 1 ≤ R.frames) {W : Nat} (hW : (rest.map fun v => v.category).sum ≤ W) (hl : W + (ml' + 11) + rm.locals ≤ R.locals) (hc : cells + rm.cells ≤ R.cells) (hs : slots + rm.slots ≤ R.slots) (hq : pc + 3 = q) :
    ∃ v h', Q v h' ∧ ∀ St', v.toList ++ rest = St' → Wk κ l Z own nm code ml ret R n0 h' (cells + rm.cells) (slots + rm.slots) q Ls St' := by
  obtain ⟨p, e, s, m, args, below, meth, c, S0⟩ := κ
  obtain ⟨g1, T, locs, X, N, eT, st⟩ := w
  subst hq hst
  have hZ := g1.2.2.2.2.2.2.1
  obtain ⟨v, _, ⟨T', L', k', n'⟩, -, X', ⟨Lc, hQ, l1, y1, z1⟩, st'⟩ := Jvm.LawKit.callS X g1.1 (y := y) g1.2.2.2.2.2.2.2 (mvT hZ w1) (mvT hZ w2) (mvT hZ w3) (mvT hZ w4) hy (backOf (W := W) (Q := fun v h L => Q v h ∧ Fr n0 L) (hM []) hZ w4 w3 hf hl) (g := mkF m pc Ls _) rfl (hsz.trans g1.2.2.1.symm) (argsL := argsL) (rest := rest) hlen rfl (by show 2 * 0 + _ ≤ _; omega) (hb g1.2.1 hd) (fun _ _ => ⟨rfl, eT, hc, hs⟩)
  dsimp only [Pt.U, Pt.locs, Pt.cells, Pt.slots] at X' l1 y1 z1 st' hQ
  subst l1 y1 z1
  exact ⟨v, _, hQ.1, fun St' hS => by subst hS; exact ⟨g1, T', _, X', N.app hQ.2, rfl, fun t k => st t (st' t k)⟩⟩
theorem Wk.callI {a : Nat} (w : Wk κ l Z own nm code ml ret R n0 h cells slots pc Ls St) {y : MethodName} {i : Nat} {by0 : ByteArray} {ml' : Nat} {rm : Room} {Q : Option Value → Heap → Prop} {argsL rest : List Value} (hM : Met l Z y by0 ml' none rm n0 (.ref a :: argsL).toArray h Q) (hy1 : y.name = "<init>")
    (w1 : (Cond.methodLink own i y).before a0 Z = true) (w2 : (Cond.instanceMethod y).before a0 Z = true) (w3 : (Cond.initialized y.cls).before a0 Z = true) (w4 : (Cond.code y by0 ml' none).before a0 Z = true) (hy : y.cls ≠ "java/lang/invoke/MethodHandle" ∧ y.cls ≠ "java/lang/invoke/VarHandle")
    (hd : decode code pc = .ok (.invokespecial i, 3)) (hlen : ∀ sig, parseMethodDescriptor y.desc = some sig → argsL.length = sig.parameters.length) (hst : St = argsL.reverse ++ .ref a :: rest) (hsz : Ls.size = ml) (hf : rm.frames + 1 ≤ R.frames) {W : Nat} (hW : (rest.map fun v => v.category).sum ≤ W) (hl : W + (ml' + 11) + rm.locals ≤ R.locals) (hc : cells + rm.cells ≤ R.cells) (hs : slots + rm.slots ≤ R.slots) (hq : pc + 3 = q) :
    ∃ v h', Q v h' ∧ ∀ St', v.toList ++ rest = St' → Wk κ l Z own nm code ml ret R n0 h' (cells + rm.cells) (slots + rm.slots) q Ls St' := by
  obtain ⟨p, e, s, m, args, below, meth, c, S0⟩ := κ
  obtain ⟨g1, T, locs, X, N, eT, st⟩ := w
  subst hq hst
  have hZ := g1.2.2.2.2.2.2.1
  obtain ⟨v, _, ⟨T', L', k', n'⟩, -, X', ⟨Lc, hQ, l1, y1, z1⟩, st'⟩ := X.specialBack g1.1 (y := y) hy1 g1.2.2.2.2.2.2.2 (mvT hZ w1) (mvT hZ w2) (mvT hZ w4) hy (backOf (W := W) (Q := fun v h L => Q v h ∧ Fr n0 L) (hM []) hZ w4 w3 hf hl) (g := mkF m pc Ls _) rfl (hsz.trans g1.2.2.1.symm) (Steps.refl _) (a := a) (argsL := argsL) (rest := rest) hlen rfl (by show 2 * 0 + _ ≤ _; omega) (hb g1.2.1 hd) (fun _ _ => ⟨rfl, eT, hc, hs⟩)
  dsimp only [Pt.U, Pt.locs, Pt.cells, Pt.slots] at X' l1 y1 z1 st' hQ
  subst l1 y1 z1
  exact ⟨v, _, hQ.1, fun St' hS => by subst hS; exact ⟨g1, T', _, X', N.app hQ.2, rfl, fun t k => st t (st'.trans k)⟩⟩
theorem Wk.callV {a : Nat} (w : Wk κ l Z own nm code ml ret R n0 h cells slots pc Ls St) {y : MethodName} {C : String} {i : Nat} {by0 : ByteArray} {ml' : Nat} {rt : Option FieldType} {rm : Room} {Q : Option Value → Heap → Prop} {argsL rest : List Value} (hM : Met l Z y by0 ml' rt rm n0 (.ref a :: argsL).toArray h Q) (E : Exa Z h a C)
    (w1 : (Cond.methodLink own i y).before a0 Z = true) (w5 : (Cond.declares y).before a0 Z = true) (w6 : (Cond.selects C y y).before a0 Z = true) (w2 : (Cond.instanceMethod y).before a0 Z = true) (w3 : (Cond.initialized y.cls).before a0 Z = true) (w4 : (Cond.code y by0 ml' rt).before a0 Z = true) (hy : y.cls ≠ "java/lang/invoke/MethodHandle" ∧ y.cls ≠ "java/lang/invoke/VarHandle")
    (hd : decode code pc = .ok (.invokevirtual i, 3)) (hlen : ∀ sig, parseMethodDescriptor y.desc = some sig → argsL.length = sig.parameters.length) (hst : St = argsL.reverse ++ .ref a :: rest) (hsz : Ls.size = ml) (hf : rm.frames + 1 ≤ R.frames) {W : Nat} (hW : (rest.map fun v => v.category).sum ≤ W) (hl : W + (ml' + 11) + rm.locals ≤ R.locals) (hc : cells + rm.cells ≤ R.cells) (hs : slots + rm.slots ≤ R.slots) (hq : pc + 3 = q) :
    ∃ v h', Q v h' ∧ ∀ St', v.toList ++ rest = St' → Wk κ l Z own nm code ml ret R n0 h' (cells + rm.cells) (slots + rm.slots) q Ls St' := by
  obtain ⟨p, e, s, m, args, below, meth, c, S0⟩ := κ
  obtain ⟨g1, T, locs, X, N, eT, st⟩ := w
  subst hq hst
  have hZ := g1.2.2.2.2.2.2.1
  obtain ⟨cq, kq, qa, qb, qc⟩ := isOf hZ eT E
  obtain ⟨v, _, ⟨T', L', k', n'⟩, -, X', ⟨Lc, hQ, l1, y1, z1⟩, st'⟩ := X.virtualBack g1.1 (y := y) (z := y) g1.2.2.2.2.2.2.2 (mvT hZ w1) (mvT hZ w5) (notFace_of_selects (args := #[]) (mvT hZ w6)) (mvT hZ w6) (mvT hZ w2) hy (backOf (W := W) (Q := fun v h L => Q v h ∧ Fr n0 L) (hM []) hZ w4 w3 hf hl) qa qc (g := mkF m pc Ls _) rfl (hsz.trans g1.2.2.1.symm) (Steps.refl _) (argsL := argsL) (rest := rest) hlen rfl (by show 2 * 0 + _ ≤ _; omega) (hb g1.2.1 hd) (fun _ _ => ⟨rfl, eT, hc, hs⟩)
  dsimp only [Pt.U, Pt.locs, Pt.cells, Pt.slots] at X' l1 y1 z1 st' hQ
  subst l1 y1 z1
  exact ⟨v, _, hQ.1, fun St' hS => by subst hS; exact ⟨g1, T', _, X', N.app hQ.2, rfl, fun t k => st t (st'.trans k)⟩⟩
end Own
end Jvm.OwnKit
@@BLOCK:HandJ.lean.txt@@
@@BLOCK:SymMore.lean.txt@@
namespace Jvm.OwnKit
open Sem ClassFile Op Lib Jvm.Stand Jvm.Free Jvm.LawKit Jvm.RoadKit
/-- an array, by the list of what it holds -/
def Arl (Z : State) (h : Heap) (t : Addr) (ty : FieldType) (vs : List Value) : Prop := ∃ cl : Cell, Arr Z h t cl ty ∧ cl.slots = vs.toArray
section Own2
variable {κ : Cx} {l : Launch} {Z : State} {own nm : String} {code : ByteArray} {ml : Nat} {ret : Option FieldType} {R : Room} {n0 : Nat} {h h' : Heap} {cells slots pc q : Nat} {Ls : Array Slot} {St : List Value} {a0 : Array Value} {t b : Nat} {ty : FieldType} {vs : List Value} {v : Value} {sl k : Nat}
theorem Arl.lt (F : Arl Z h t ty vs) : t < h.size := by obtain ⟨cl, A, -⟩ := F; exact A.lt
theorem Arl.ext (F : Arl Z h t ty vs) (E : Ext h h') : Arl Z h' t ty vs := by obtain ⟨cl, A, e⟩ := F; exact ⟨cl, A.ext E, e⟩
theorem Arl.far (F : Arl Z h t ty vs) (W : Wr h h' b sl v) (ne : t ≠ b) : Arl Z h' t ty vs := by obtain ⟨cl, A, e⟩ := F; exact ⟨cl, A.other W ne, e⟩
theorem Arl.keep {ws : List Addr} (F : Arl Z h t ty vs) (K : Keep h h' ws) (q : t ∉ ws) : Arl Z h' t ty vs := by obtain ⟨cl, A, e⟩ := F; exact ⟨cl, ⟨K.2.1 t cl A.1 q, A.2⟩, e⟩
theorem Arl.put (F : Arl Z h t ty vs) (W : Wr h h' t k v) : Arl Z h' t ty (vs.set k v) := by
  obtain ⟨cl, A, e⟩ := F
  refine ⟨_, A.same W, ?_⟩
  show cl.slots.setIfInBounds k v = _
  rw [e, List.setIfInBounds_toArray]
theorem Arl.new {cA : ClassId} {z : Int32} (A : Arr Z h t (newA cA ty z) ty) (e : Array.replicate z.toNatClampNeg (defaultValue ty) = vs.toArray) : Arl Z h t ty vs := ⟨_, A, e⟩
theorem in_list {j : Int32} {cl : Cell} (e : cl.slots = vs.toArray) (hj : j.toInt = k) (hk : k < vs.length) : ¬ (j < 0 ∨ cl.slots.size ≤ j.toNatClampNeg) := by
  have e1 : (0 : Int32).toInt = 0 := rfl
  have e2 : j.toNatClampNeg = j.toInt.toNat := rfl
  have e3 : cl.slots.size = vs.length := by rw [e]; simp
  rw [Int32.lt_iff_toInt_lt]
  omega
theorem at_list {j : Int32} {cl : Cell} (e : cl.slots = vs.toArray) (hj : j.toInt = k) (hv : vs[k]? = some v) : cl.slots[j.toNatClampNeg]? = some v := by
  have e2 : j.toNatClampNeg = k := by show j.toInt.toNat = k; omega
  rw [e, e2]; simpa using hv
theorem ltl {i n : Nat} (e : Nat.ble (i + 1) n = true) : i < n := Nat.le_of_ble_eq_true e
theorem lt_list (hv : vs[k]? = some v) : k < vs.length := (List.getElem?_eq_some_iff.mp hv).1
theorem Wk.ldIl {j : Int32} (w : Wk κ l Z own nm code ml ret R n0 h cells slots pc Ls (.int j :: .ref t :: St)) (F : Arl Z h t .int vs) (k : Nat) (hj : j.toInt = k) (hv : vs[k]? = some v) (hd : decode code pc = .ok (.iaload, 1)) (hq : pc + 1 = q) : Wk κ l Z own nm code ml ret R n0 h cells slots q Ls (v :: St) := by
  obtain ⟨cl, A, e⟩ := F
  exact w.ldI A (in_list e hj (lt_list hv)) (at_list e hj hv) hd hq
theorem Wk.ldDl {j : Int32} (w : Wk κ l Z own nm code ml ret R n0 h cells slots pc Ls (.int j :: .ref t :: St)) (F : Arl Z h t .double vs) (k : Nat) (hj : j.toInt = k) (hv : vs[k]? = some v) (hd : decode code pc = .ok (.daload, 1)) (hq : pc + 1 = q) : Wk κ l Z own nm code ml ret R n0 h cells slots q Ls (v :: St) := by
  obtain ⟨cl, A, e⟩ := F
  exact w.ldD A (in_list e hj (lt_list hv)) (at_list e hj hv) hd hq
theorem Wk.stIl {j x : Int32} (w : Wk κ l Z own nm code ml ret R n0 h cells slots pc Ls (.int x :: .int j :: .ref t :: St)) (F : Arl Z h t .int vs) (k : Nat) (hj : j.toInt = k) (hk : k < vs.length) (ge : n0 ≤ t) (hd : decode code pc = .ok (.iastore, 1)) (hq : pc + 1 = q) : ∃ h', Wr h h' t k (.int x) ∧ Wk κ l Z own nm code ml ret R n0 h' cells slots q Ls St := by
  obtain ⟨cl, A, e⟩ := F
  have e2 : j.toNatClampNeg = k := by show j.toInt.toNat = k; omega
  have r := w.stI A (in_list e hj hk) hd ge hq
  rw [e2] at r
  exact r
theorem Wk.stDl {j : Int32} {x : UInt64} (w : Wk κ l Z own nm code ml ret R n0 h cells slots pc Ls (.double x :: .int j :: .ref t :: St)) (F : Arl Z h t .double vs) (k : Nat) (hj : j.toInt = k) (hk : k < vs.length) (ge : n0 ≤ t) (hd : decode code pc = .ok (.dastore, 1)) (hq : pc + 1 = q) : ∃ h', Wr h h' t k (.double x) ∧ Wk κ l Z own nm code ml ret R n0 h' cells slots q Ls St := by
  obtain ⟨cl, A, e⟩ := F
  have e2 : j.toNatClampNeg = k := by show j.toInt.toNat = k; omega
  have r := w.stD A (in_list e hj hk) hd ge hq
  rw [e2] at r
  exact r
theorem Wk.lenl {z : Int32} (w : Wk κ l Z own nm code ml ret R n0 h cells slots pc Ls (.ref t :: St)) (F : Arl Z h t ty vs) (hz : vs.length.toInt32 = z) (hd : decode code pc = .ok (.arraylength, 1)) (hq : pc + 1 = q) : Wk κ l Z own nm code ml ret R n0 h cells slots q Ls (.int z :: St) := by
  obtain ⟨cl, A, e⟩ := F
  exact w.len A (by rw [e]; simpa using hz) hd hq
theorem Wk.callP {a : Nat} (w : Wk κ l Z own nm code ml ret R n0 h cells slots pc Ls St) {y : MethodName} {i n : Nat} {by0 : ByteArray} {ml' : Nat} {rt : Option FieldType} {rm : Room} {Q : Option Value → Heap → Prop} {argsL rest : List Value} {C : String} (hM : Met l Z y by0 ml' rt rm n0 (.ref a :: argsL).toArray h Q) (E : Exa Z h a C)
    (w1 : (Cond.methodLink own i y).before a0 Z = true) (w5 : (Cond.privateMethod y).before a0 Z = true) (w6 : (Cond.instantiable y.cls n).before a0 Z = true) (w2 : (Cond.instanceMethod y).before a0 Z = true) (w3 : (Cond.initialized y.cls).before a0 Z = true) (w4 : (Cond.code y by0 ml' rt).before a0 Z = true) (hy : y.cls ≠ "java/lang/invoke/MethodHandle" ∧ y.cls ≠ "java/lang/invoke/VarHandle")
    (hd : decode code pc = .ok (.invokevirtual i, 3)) (hlen : ∀ sig, parseMethodDescriptor y.desc = some sig → argsL.length = sig.parameters.length) (hst : St = argsL.reverse ++ .ref a :: rest) (hsz : Ls.size = ml) (hf : rm.frames + 1 ≤ R.frames) {W : Nat} (hW : (rest.map fun v => v.category).sum ≤ W) (hl : W + (ml' + 11) + rm.locals ≤ R.locals) (hc : cells + rm.cells ≤ R.cells) (hs : slots + rm.slots ≤ R.slots) (hq : pc + 3 = q) :
    ∃ v h', Q v h' ∧ ∀ St', v.toList ++ rest = St' → Wk κ l Z own nm code ml ret R n0 h' (cells + rm.cells) (slots + rm.slots) q Ls St' := by
  obtain ⟨p, e, s, m, args, below, meth, c, S0⟩ := κ
  obtain ⟨g1, T, locs, X, N, eT, st⟩ := w
  subst hq hst
  have hZ := g1.2.2.2.2.2.2.1
  have hsel := Jvm.Kit.selects_private hy w6 w5 w2
  obtain ⟨cq, q1, q2⟩ := E.cell
  obtain ⟨v, _, ⟨T', L', k', n'⟩, -, X', ⟨Lc, hQ, l1, y1, z1⟩, st'⟩ := X.privateBack g1.1 (y := y) g1.2.2.2.2.2.2.2 (mvT hZ w1) (mvT hZ w2) (mvT hZ hsel) (Cond.privateMethod_at (mvP hZ w5 (args := #[]))) (mvT hZ w4) hy (backOf (W := W) (Q := fun v h L => Q v h ∧ Fr n0 L) (hM []) hZ w4 w3 hf hl) (g := mkF m pc Ls _) rfl (hsz.trans g1.2.2.1.symm) (Steps.refl _) (a := a) (by rw [eT]; exact q1) q2 (argsL := argsL) (rest := rest) hlen rfl (by show 2 * 0 + _ ≤ _; omega) (hb g1.2.1 hd) (fun _ _ => ⟨rfl, eT, hc, hs⟩)
  dsimp only [Pt.U, Pt.locs, Pt.cells, Pt.slots] at X' l1 y1 z1 st' hQ
  subst l1 y1 z1
  exact ⟨v, _, hQ.1, fun St' hS => by subst hS; exact ⟨g1, T', _, X', N.app hQ.2, rfl, fun t k => st t (st'.trans k)⟩⟩
end Own2
end Jvm.OwnKit
namespace Jvm.Pilot.@@N@@
open Jvm Jvm.ClassFile Sem Op Lib Jvm.Free Jvm.Stand Jvm.LawKit Jvm.RoadKit Jvm.OwnKit Bundle Jvm.Pilot.@@N@@.Jvm.D
theorem pn_0 : plainName "com/example/weaverbird/weaverbird/paraphrases/SourceRows" = true := by first | (simp [plainName, overriddenIn]; done) | decide +kernel
theorem pn_1 : plainName "com/example/weaverbird/weaverbird/paraphrases/SourceRowsGatherByPhrasePinLaw" = true := by first | (simp [plainName, overriddenIn]; done) | decide +kernel
theorem pd_0 : parseMethodDescriptor "(I)I" = some ⟨[.int], (some .int)⟩ := by decide +kernel
theorem pd_1 : parseMethodDescriptor "(I)D" = some ⟨[.int], (some .double)⟩ := by decide +kernel
theorem pd_2 : parseMethodDescriptor "()V" = some ⟨[], none⟩ := by decide +kernel
theorem pd_3 : parseMethodDescriptor "(IDD)V" = some ⟨[.int, .double, .double], none⟩ := by decide +kernel
theorem pd_4 : parseMethodDescriptor "([I)V" = some ⟨[(.array .int)], none⟩ := by decide +kernel
theorem pd_5 : parseMethodDescriptor "()I" = some ⟨[], (some .int)⟩ := by decide +kernel
theorem pd_6 : parseMethodDescriptor "(Lcom/example/weaverbird/weaverbird/paraphrases/SourceRows;I[I[I[I)Z" = some ⟨[(.object "com/example/weaverbird/weaverbird/paraphrases/SourceRows"), .int, (.array .int), (.array .int), (.array .int)], (some .boolean)⟩ := by decide +kernel
theorem dp106m1_0 : decode prog_106_method_1_code 0 = .ok (.aload_n 0, 1) := by decide +kernel
theorem dp106m1_1 : decode prog_106_method_1_code 1 = .ok (.invokespecial 1, 3) := by decide +kernel
theorem dp106m1_4 : decode prog_106_method_1_code 4 = .ok (.aload_n 0, 1) := by decide +kernel
theorem dp106m1_5 : decode prog_106_method_1_code 5 = .ok (.bipush 16, 2) := by decide +kernel
theorem dp106m1_7 : decode prog_106_method_1_code 7 = .ok (.newarray .int, 2) := by decide +kernel
theorem dp106m1_9 : decode prog_106_method_1_code 9 = .ok (.putfield 7, 3) := by decide +kernel
theorem dp106m1_12 : decode prog_106_method_1_code 12 = .ok (.aload_n 0, 1) := by decide +kernel
theorem dp106m1_13 : decode prog_106_method_1_code 13 = .ok (.bipush 16, 2) := by decide +kernel
theorem dp106m1_15 : decode prog_106_method_1_code 15 = .ok (.newarray .double, 2) := by decide +kernel
theorem dp106m1_17 : decode prog_106_method_1_code 17 = .ok (.putfield 13, 3) := by decide +kernel
theorem dp106m1_20 : decode prog_106_method_1_code 20 = .ok (.aload_n 0, 1) := by decide +kernel
theorem dp106m1_21 : decode prog_106_method_1_code 21 = .ok (.bipush 16, 2) := by decide +kernel
theorem dp106m1_23 : decode prog_106_method_1_code 23 = .ok (.newarray .double, 2) := by decide +kernel
theorem dp106m1_25 : decode prog_106_method_1_code 25 = .ok (.putfield 17, 3) := by decide +kernel
theorem dp106m1_28 : decode prog_106_method_1_code 28 = .ok (.return_, 1) := by decide +kernel
theorem dp106m2_0 : decode prog_106_method_2_code 0 = .ok (.aload_n 0, 1) := by decide +kernel
theorem dp106m2_1 : decode prog_106_method_2_code 1 = .ok (.getfield 20, 3) := by decide +kernel
theorem dp106m2_4 : decode prog_106_method_2_code 4 = .ok (.aload_n 0, 1) := by decide +kernel
theorem dp106m2_5 : decode prog_106_method_2_code 5 = .ok (.getfield 7, 3) := by decide +kernel
theorem dp106m2_8 : decode prog_106_method_2_code 8 = .ok (.arraylength, 1) := by decide +kernel
theorem dp106m2_9 : decode prog_106_method_2_code 9 = .ok (.if_icmp .ne 54, 3) := by decide +kernel
theorem dp106m2_12 : decode prog_106_method_2_code 12 = .ok (.aload_n 0, 1) := by decide +kernel
theorem dp106m2_13 : decode prog_106_method_2_code 13 = .ok (.aload_n 0, 1) := by decide +kernel
theorem dp106m2_14 : decode prog_106_method_2_code 14 = .ok (.getfield 7, 3) := by decide +kernel
theorem dp106m2_17 : decode prog_106_method_2_code 17 = .ok (.iconst 2, 1) := by decide +kernel
theorem dp106m2_18 : decode prog_106_method_2_code 18 = .ok (.aload_n 0, 1) := by decide +kernel
theorem dp106m2_19 : decode prog_106_method_2_code 19 = .ok (.getfield 20, 3) := by decide +kernel
theorem dp106m2_22 : decode prog_106_method_2_code 22 = .ok (.imul, 1) := by decide +kernel
theorem dp106m2_23 : decode prog_106_method_2_code 23 = .ok (.invokestatic 24, 3) := by decide +kernel
theorem dp106m2_26 : decode prog_106_method_2_code 26 = .ok (.putfield 7, 3) := by decide +kernel
theorem dp106m2_29 : decode prog_106_method_2_code 29 = .ok (.aload_n 0, 1) := by decide +kernel
theorem dp106m2_30 : decode prog_106_method_2_code 30 = .ok (.aload_n 0, 1) := by decide +kernel
theorem dp106m2_31 : decode prog_106_method_2_code 31 = .ok (.getfield 13, 3) := by decide +kernel
theorem dp106m2_34 : decode prog_106_method_2_code 34 = .ok (.iconst 2, 1) := by decide +kernel
theorem dp106m2_35 : decode prog_106_method_2_code 35 = .ok (.aload_n 0, 1) := by decide +kernel
theorem dp106m2_36 : decode prog_106_method_2_code 36 = .ok (.getfield 20, 3) := by decide +kernel
theorem dp106m2_39 : decode prog_106_method_2_code 39 = .ok (.imul, 1) := by decide +kernel
theorem dp106m2_40 : decode prog_106_method_2_code 40 = .ok (.invokestatic 30, 3) := by decide +kernel
theorem dp106m2_43 : decode prog_106_method_2_code 43 = .ok (.putfield 13, 3) := by decide +kernel
theorem dp106m2_46 : decode prog_106_method_2_code 46 = .ok (.aload_n 0, 1) := by decide +kernel
theorem dp106m2_47 : decode prog_106_method_2_code 47 = .ok (.aload_n 0, 1) := by decide +kernel
theorem dp106m2_48 : decode prog_106_method_2_code 48 = .ok (.getfield 17, 3) := by decide +kernel
theorem dp106m2_51 : decode prog_106_method_2_code 51 = .ok (.iconst 2, 1) := by decide +kernel
theorem dp106m2_52 : decode prog_106_method_2_code 52 = .ok (.aload_n 0, 1) := by decide +kernel
theorem dp106m2_53 : decode prog_106_method_2_code 53 = .ok (.getfield 20, 3) := by decide +kernel
theorem dp106m2_56 : decode prog_106_method_2_code 56 = .ok (.imul, 1) := by decide +kernel
theorem dp106m2_57 : decode prog_106_method_2_code 57 = .ok (.invokestatic 30, 3) := by decide +kernel
theorem dp106m2_60 : decode prog_106_method_2_code 60 = .ok (.putfield 17, 3) := by decide +kernel
theorem dp106m2_63 : decode prog_106_method_2_code 63 = .ok (.aload_n 0, 1) := by decide +kernel
theorem dp106m2_64 : decode prog_106_method_2_code 64 = .ok (.getfield 7, 3) := by decide +kernel
theorem dp106m2_67 : decode prog_106_method_2_code 67 = .ok (.aload_n 0, 1) := by decide +kernel
theorem dp106m2_68 : decode prog_106_method_2_code 68 = .ok (.getfield 20, 3) := by decide +kernel
theorem dp106m2_71 : decode prog_106_method_2_code 71 = .ok (.iload_n 1, 1) := by decide +kernel
theorem dp106m2_72 : decode prog_106_method_2_code 72 = .ok (.iastore, 1) := by decide +kernel
theorem dp106m2_73 : decode prog_106_method_2_code 73 = .ok (.aload_n 0, 1) := by decide +kernel
theorem dp106m2_74 : decode prog_106_method_2_code 74 = .ok (.getfield 13, 3) := by decide +kernel
theorem dp106m2_77 : decode prog_106_method_2_code 77 = .ok (.aload_n 0, 1) := by decide +kernel
theorem dp106m2_78 : decode prog_106_method_2_code 78 = .ok (.getfield 20, 3) := by decide +kernel
theorem dp106m2_81 : decode prog_106_method_2_code 81 = .ok (.dload_n 2, 1) := by decide +kernel
theorem dp106m2_82 : decode prog_106_method_2_code 82 = .ok (.dastore, 1) := by decide +kernel
theorem dp106m2_83 : decode prog_106_method_2_code 83 = .ok (.aload_n 0, 1) := by decide +kernel
theorem dp106m2_84 : decode prog_106_method_2_code 84 = .ok (.getfield 17, 3) := by decide +kernel
theorem dp106m2_87 : decode prog_106_method_2_code 87 = .ok (.aload_n 0, 1) := by decide +kernel
theorem dp106m2_88 : decode prog_106_method_2_code 88 = .ok (.getfield 20, 3) := by decide +kernel
theorem dp106m2_91 : decode prog_106_method_2_code 91 = .ok (.dload 4, 2) := by decide +kernel
theorem dp106m2_93 : decode prog_106_method_2_code 93 = .ok (.dastore, 1) := by decide +kernel
theorem dp106m2_94 : decode prog_106_method_2_code 94 = .ok (.aload_n 0, 1) := by decide +kernel
theorem dp106m2_95 : decode prog_106_method_2_code 95 = .ok (.dup, 1) := by decide +kernel
theorem dp106m2_96 : decode prog_106_method_2_code 96 = .ok (.getfield 20, 3) := by decide +kernel
theorem dp106m2_99 : decode prog_106_method_2_code 99 = .ok (.iconst 1, 1) := by decide +kernel
theorem dp106m2_100 : decode prog_106_method_2_code 100 = .ok (.iadd, 1) := by decide +kernel
theorem dp106m2_101 : decode prog_106_method_2_code 101 = .ok (.putfield 20, 3) := by decide +kernel
theorem dp106m2_104 : decode prog_106_method_2_code 104 = .ok (.return_, 1) := by decide +kernel
theorem dp106m8_0 : decode prog_106_method_8_code 0 = .ok (.iconst 0, 1) := by decide +kernel
theorem dp106m8_1 : decode prog_106_method_8_code 1 = .ok (.istore_n 2, 1) := by decide +kernel
theorem dp106m8_2 : decode prog_106_method_8_code 2 = .ok (.iconst 0, 1) := by decide +kernel
theorem dp106m8_3 : decode prog_106_method_8_code 3 = .ok (.istore_n 3, 1) := by decide +kernel
theorem dp106m8_4 : decode prog_106_method_8_code 4 = .ok (.iload_n 3, 1) := by decide +kernel
theorem dp106m8_5 : decode prog_106_method_8_code 5 = .ok (.aload_n 0, 1) := by decide +kernel
theorem dp106m8_6 : decode prog_106_method_8_code 6 = .ok (.getfield 20, 3) := by decide +kernel
theorem dp106m8_9 : decode prog_106_method_8_code 9 = .ok (.if_icmp .ge 103, 3) := by decide +kernel
theorem dp106m8_12 : decode prog_106_method_8_code 12 = .ok (.aload_n 0, 1) := by decide +kernel
theorem dp106m8_13 : decode prog_106_method_8_code 13 = .ok (.getfield 7, 3) := by decide +kernel
theorem dp106m8_16 : decode prog_106_method_8_code 16 = .ok (.iload_n 3, 1) := by decide +kernel
theorem dp106m8_17 : decode prog_106_method_8_code 17 = .ok (.iaload, 1) := by decide +kernel
theorem dp106m8_18 : decode prog_106_method_8_code 18 = .ok (.istore 4, 2) := by decide +kernel
theorem dp106m8_20 : decode prog_106_method_8_code 20 = .ok (.aload_n 1, 1) := by decide +kernel
theorem dp106m8_21 : decode prog_106_method_8_code 21 = .ok (.iload 4, 2) := by decide +kernel
theorem dp106m8_23 : decode prog_106_method_8_code 23 = .ok (.iaload, 1) := by decide +kernel
theorem dp106m8_24 : decode prog_106_method_8_code 24 = .ok (.istore 5, 2) := by decide +kernel
theorem dp106m8_26 : decode prog_106_method_8_code 26 = .ok (.iload 5, 2) := by decide +kernel
theorem dp106m8_28 : decode prog_106_method_8_code 28 = .ok (.ifCond .ge 46, 3) := by decide +kernel
theorem dp106m8_31 : decode prog_106_method_8_code 31 = .ok (.aload_n 1, 1) := by decide +kernel
theorem dp106m8_32 : decode prog_106_method_8_code 32 = .ok (.iload 4, 2) := by decide +kernel
theorem dp106m8_34 : decode prog_106_method_8_code 34 = .ok (.iload_n 2, 1) := by decide +kernel
theorem dp106m8_35 : decode prog_106_method_8_code 35 = .ok (.iastore, 1) := by decide +kernel
theorem dp106m8_36 : decode prog_106_method_8_code 36 = .ok (.aload_n 0, 1) := by decide +kernel
theorem dp106m8_37 : decode prog_106_method_8_code 37 = .ok (.getfield 7, 3) := by decide +kernel
theorem dp106m8_40 : decode prog_106_method_8_code 40 = .ok (.iload_n 2, 1) := by decide +kernel
theorem dp106m8_41 : decode prog_106_method_8_code 41 = .ok (.iload 4, 2) := by decide +kernel
theorem dp106m8_43 : decode prog_106_method_8_code 43 = .ok (.iastore, 1) := by decide +kernel
theorem dp106m8_44 : decode prog_106_method_8_code 44 = .ok (.aload_n 0, 1) := by decide +kernel
theorem dp106m8_45 : decode prog_106_method_8_code 45 = .ok (.getfield 13, 3) := by decide +kernel
theorem dp106m8_48 : decode prog_106_method_8_code 48 = .ok (.iload_n 2, 1) := by decide +kernel
theorem dp106m8_49 : decode prog_106_method_8_code 49 = .ok (.aload_n 0, 1) := by decide +kernel
theorem dp106m8_50 : decode prog_106_method_8_code 50 = .ok (.getfield 13, 3) := by decide +kernel
theorem dp106m8_53 : decode prog_106_method_8_code 53 = .ok (.iload_n 3, 1) := by decide +kernel
theorem dp106m8_54 : decode prog_106_method_8_code 54 = .ok (.daload, 1) := by decide +kernel
theorem dp106m8_55 : decode prog_106_method_8_code 55 = .ok (.dastore, 1) := by decide +kernel
theorem dp106m8_56 : decode prog_106_method_8_code 56 = .ok (.aload_n 0, 1) := by decide +kernel
theorem dp106m8_57 : decode prog_106_method_8_code 57 = .ok (.getfield 17, 3) := by decide +kernel
theorem dp106m8_60 : decode prog_106_method_8_code 60 = .ok (.iload_n 2, 1) := by decide +kernel
theorem dp106m8_61 : decode prog_106_method_8_code 61 = .ok (.aload_n 0, 1) := by decide +kernel
theorem dp106m8_62 : decode prog_106_method_8_code 62 = .ok (.getfield 17, 3) := by decide +kernel
theorem dp106m8_65 : decode prog_106_method_8_code 65 = .ok (.iload_n 3, 1) := by decide +kernel
theorem dp106m8_66 : decode prog_106_method_8_code 66 = .ok (.daload, 1) := by decide +kernel
theorem dp106m8_67 : decode prog_106_method_8_code 67 = .ok (.dastore, 1) := by decide +kernel
theorem dp106m8_68 : decode prog_106_method_8_code 68 = .ok (.iinc 2 1, 3) := by decide +kernel
theorem dp106m8_71 : decode prog_106_method_8_code 71 = .ok (.goto 35, 3) := by decide +kernel
theorem dp106m8_74 : decode prog_106_method_8_code 74 = .ok (.aload_n 0, 1) := by decide +kernel
theorem dp106m8_75 : decode prog_106_method_8_code 75 = .ok (.getfield 13, 3) := by decide +kernel
theorem dp106m8_78 : decode prog_106_method_8_code 78 = .ok (.iload 5, 2) := by decide +kernel
theorem dp106m8_80 : decode prog_106_method_8_code 80 = .ok (.dup2, 1) := by decide +kernel
theorem dp106m8_81 : decode prog_106_method_8_code 81 = .ok (.daload, 1) := by decide +kernel
theorem dp106m8_82 : decode prog_106_method_8_code 82 = .ok (.aload_n 0, 1) := by decide +kernel
theorem dp106m8_83 : decode prog_106_method_8_code 83 = .ok (.getfield 13, 3) := by decide +kernel
theorem dp106m8_86 : decode prog_106_method_8_code 86 = .ok (.iload_n 3, 1) := by decide +kernel
theorem dp106m8_87 : decode prog_106_method_8_code 87 = .ok (.daload, 1) := by decide +kernel
theorem dp106m8_88 : decode prog_106_method_8_code 88 = .ok (.dadd, 1) := by decide +kernel
theorem dp106m8_89 : decode prog_106_method_8_code 89 = .ok (.dastore, 1) := by decide +kernel
theorem dp106m8_90 : decode prog_106_method_8_code 90 = .ok (.aload_n 0, 1) := by decide +kernel
theorem dp106m8_91 : decode prog_106_method_8_code 91 = .ok (.getfield 17, 3) := by decide +kernel
theorem dp106m8_94 : decode prog_106_method_8_code 94 = .ok (.iload 5, 2) := by decide +kernel
theorem dp106m8_96 : decode prog_106_method_8_code 96 = .ok (.dup2, 1) := by decide +kernel
theorem dp106m8_97 : decode prog_106_method_8_code 97 = .ok (.daload, 1) := by decide +kernel
theorem dp106m8_98 : decode prog_106_method_8_code 98 = .ok (.aload_n 0, 1) := by decide +kernel
theorem dp106m8_99 : decode prog_106_method_8_code 99 = .ok (.getfield 17, 3) := by decide +kernel
theorem dp106m8_102 : decode prog_106_method_8_code 102 = .ok (.iload_n 3, 1) := by decide +kernel
theorem dp106m8_103 : decode prog_106_method_8_code 103 = .ok (.daload, 1) := by decide +kernel
theorem dp106m8_104 : decode prog_106_method_8_code 104 = .ok (.dadd, 1) := by decide +kernel
theorem dp106m8_105 : decode prog_106_method_8_code 105 = .ok (.dastore, 1) := by decide +kernel
theorem dp106m8_106 : decode prog_106_method_8_code 106 = .ok (.iinc 3 1, 3) := by decide +kernel
theorem dp106m8_109 : decode prog_106_method_8_code 109 = .ok (.goto (-105), 3) := by decide +kernel
theorem dp106m8_112 : decode prog_106_method_8_code 112 = .ok (.iconst 0, 1) := by decide +kernel
theorem dp106m8_113 : decode prog_106_method_8_code 113 = .ok (.istore_n 3, 1) := by decide +kernel
theorem dp106m8_114 : decode prog_106_method_8_code 114 = .ok (.iload_n 3, 1) := by decide +kernel
theorem dp106m8_115 : decode prog_106_method_8_code 115 = .ok (.iload_n 2, 1) := by decide +kernel
theorem dp106m8_116 : decode prog_106_method_8_code 116 = .ok (.if_icmp .ge 18, 3) := by decide +kernel
theorem dp106m8_119 : decode prog_106_method_8_code 119 = .ok (.aload_n 1, 1) := by decide +kernel
theorem dp106m8_120 : decode prog_106_method_8_code 120 = .ok (.aload_n 0, 1) := by decide +kernel
theorem dp106m8_121 : decode prog_106_method_8_code 121 = .ok (.getfield 7, 3) := by decide +kernel
theorem dp106m8_124 : decode prog_106_method_8_code 124 = .ok (.iload_n 3, 1) := by decide +kernel
theorem dp106m8_125 : decode prog_106_method_8_code 125 = .ok (.iaload, 1) := by decide +kernel
theorem dp106m8_126 : decode prog_106_method_8_code 126 = .ok (.iconst (-1), 1) := by decide +kernel
theorem dp106m8_127 : decode prog_106_method_8_code 127 = .ok (.iastore, 1) := by decide +kernel
theorem dp106m8_128 : decode prog_106_method_8_code 128 = .ok (.iinc 3 1, 3) := by decide +kernel
theorem dp106m8_131 : decode prog_106_method_8_code 131 = .ok (.goto (-17), 3) := by decide +kernel
theorem dp106m8_134 : decode prog_106_method_8_code 134 = .ok (.aload_n 0, 1) := by decide +kernel
theorem dp106m8_135 : decode prog_106_method_8_code 135 = .ok (.iload_n 2, 1) := by decide +kernel
theorem dp106m8_136 : decode prog_106_method_8_code 136 = .ok (.putfield 20, 3) := by decide +kernel
theorem dp106m8_139 : decode prog_106_method_8_code 139 = .ok (.return_, 1) := by decide +kernel
theorem dp106m4_0 : decode prog_106_method_4_code 0 = .ok (.aload_n 0, 1) := by decide +kernel
theorem dp106m4_1 : decode prog_106_method_4_code 1 = .ok (.getfield 20, 3) := by decide +kernel
theorem dp106m4_4 : decode prog_106_method_4_code 4 = .ok (.ireturn, 1) := by decide +kernel
theorem dlm3_0 : decode method_3_code 0 = .ok (.aload_n 0, 1) := by decide +kernel
theorem dlm3_1 : decode method_3_code 1 = .ok (.iload_n 1, 1) := by decide +kernel
theorem dlm3_2 : decode method_3_code 2 = .ok (.invokevirtual 29, 3) := by decide +kernel
theorem dlm3_5 : decode method_3_code 5 = .ok (.aload_n 2, 1) := by decide +kernel
theorem dlm3_6 : decode method_3_code 6 = .ok (.iload_n 1, 1) := by decide +kernel
theorem dlm3_7 : decode method_3_code 7 = .ok (.iaload, 1) := by decide +kernel
theorem dlm3_8 : decode method_3_code 8 = .ok (.if_icmp .ne 34, 3) := by decide +kernel
theorem dlm3_11 : decode method_3_code 11 = .ok (.aload_n 0, 1) := by decide +kernel
theorem dlm3_12 : decode method_3_code 12 = .ok (.iload_n 1, 1) := by decide +kernel
theorem dlm3_13 : decode method_3_code 13 = .ok (.invokevirtual 33, 3) := by decide +kernel
theorem dlm3_16 : decode method_3_code 16 = .ok (.aload_n 3, 1) := by decide +kernel
theorem dlm3_17 : decode method_3_code 17 = .ok (.iload_n 1, 1) := by decide +kernel
theorem dlm3_18 : decode method_3_code 18 = .ok (.iaload, 1) := by decide +kernel
theorem dlm3_19 : decode method_3_code 19 = .ok (.i2d, 1) := by decide +kernel
theorem dlm3_20 : decode method_3_code 20 = .ok (.dcmp .l, 1) := by decide +kernel
theorem dlm3_21 : decode method_3_code 21 = .ok (.ifCond .ne 21, 3) := by decide +kernel
theorem dlm3_24 : decode method_3_code 24 = .ok (.aload_n 0, 1) := by decide +kernel
theorem dlm3_25 : decode method_3_code 25 = .ok (.iload_n 1, 1) := by decide +kernel
theorem dlm3_26 : decode method_3_code 26 = .ok (.invokevirtual 37, 3) := by decide +kernel
theorem dlm3_29 : decode method_3_code 29 = .ok (.aload 4, 2) := by decide +kernel
theorem dlm3_31 : decode method_3_code 31 = .ok (.iload_n 1, 1) := by decide +kernel
theorem dlm3_32 : decode method_3_code 32 = .ok (.iaload, 1) := by decide +kernel
theorem dlm3_33 : decode method_3_code 33 = .ok (.i2d, 1) := by decide +kernel
theorem dlm3_34 : decode method_3_code 34 = .ok (.dcmp .l, 1) := by decide +kernel
theorem dlm3_35 : decode method_3_code 35 = .ok (.ifCond .ne 7, 3) := by decide +kernel
theorem dlm3_38 : decode method_3_code 38 = .ok (.iconst 1, 1) := by decide +kernel
theorem dlm3_39 : decode method_3_code 39 = .ok (.goto 4, 3) := by decide +kernel
theorem dlm3_42 : decode method_3_code 42 = .ok (.iconst 0, 1) := by decide +kernel
theorem dlm3_43 : decode method_3_code 43 = .ok (.ireturn, 1) := by decide +kernel
theorem dp106m5_0 : decode prog_106_method_5_code 0 = .ok (.aload_n 0, 1) := by decide +kernel
theorem dp106m5_1 : decode prog_106_method_5_code 1 = .ok (.getfield 7, 3) := by decide +kernel
theorem dp106m5_4 : decode prog_106_method_5_code 4 = .ok (.iload_n 1, 1) := by decide +kernel
theorem dp106m5_5 : decode prog_106_method_5_code 5 = .ok (.iaload, 1) := by decide +kernel
theorem dp106m5_6 : decode prog_106_method_5_code 6 = .ok (.ireturn, 1) := by decide +kernel
theorem dp106m6_0 : decode prog_106_method_6_code 0 = .ok (.aload_n 0, 1) := by decide +kernel
theorem dp106m6_1 : decode prog_106_method_6_code 1 = .ok (.getfield 13, 3) := by decide +kernel
theorem dp106m6_4 : decode prog_106_method_6_code 4 = .ok (.iload_n 1, 1) := by decide +kernel
theorem dp106m6_5 : decode prog_106_method_6_code 5 = .ok (.daload, 1) := by decide +kernel
theorem dp106m6_6 : decode prog_106_method_6_code 6 = .ok (.dreturn, 1) := by decide +kernel
theorem dp106m7_0 : decode prog_106_method_7_code 0 = .ok (.aload_n 0, 1) := by decide +kernel
theorem dp106m7_1 : decode prog_106_method_7_code 1 = .ok (.getfield 17, 3) := by decide +kernel
theorem dp106m7_4 : decode prog_106_method_7_code 4 = .ok (.iload_n 1, 1) := by decide +kernel
theorem dp106m7_5 : decode prog_106_method_7_code 5 = .ok (.daload, 1) := by decide +kernel
theorem dp106m7_6 : decode prog_106_method_7_code 6 = .ok (.dreturn, 1) := by decide +kernel
def So (Z : State) (h : Heap) (a : Nat) (u_phrases u_sourceGivenTarget u_targetGivenSource u_size : Value) : Prop := Exa Z h a "com/example/weaverbird/weaverbird/paraphrases/SourceRows" ∧ Fld Z h a "com/example/weaverbird/weaverbird/paraphrases/SourceRows" "phrases" "[I" u_phrases ∧ Fld Z h a "com/example/weaverbird/weaverbird/paraphrases/SourceRows" "sourceGivenTarget" "[D" u_sourceGivenTarget ∧ Fld Z h a "com/example/weaverbird/weaverbird/paraphrases/SourceRows" "targetGivenSource" "[D" u_targetGivenSource ∧ Fld Z h a "com/example/weaverbird/weaverbird/paraphrases/SourceRows" "size" "I" u_size
theorem So.ext {Z : State} {h h' : Heap} {a : Nat} {u_phrases u_sourceGivenTarget u_targetGivenSource u_size : Value} (S : So Z h a u_phrases u_sourceGivenTarget u_targetGivenSource u_size) (E : Ext h h') : So Z h' a u_phrases u_sourceGivenTarget u_targetGivenSource u_size := ⟨Exa.ext E S.1, Fld.ext E (S.2.1), Fld.ext E (S.2.2.1), Fld.ext E (S.2.2.2.1), Fld.ext E (S.2.2.2.2)⟩
theorem So.far {Z : State} {h h' : Heap} {a b : Nat} {u_phrases u_sourceGivenTarget u_targetGivenSource u_size u : Value} {sl : Nat} (S : So Z h a u_phrases u_sourceGivenTarget u_targetGivenSource u_size) (W : Wr h h' b sl u) (ne : a ≠ b) : So Z h' a u_phrases u_sourceGivenTarget u_targetGivenSource u_size := ⟨Exa.wr W S.1, Fld.other W (S.2.1) (Or.inl ne), Fld.other W (S.2.2.1) (Or.inl ne), Fld.other W (S.2.2.2.1) (Or.inl ne), Fld.other W (S.2.2.2.2) (Or.inl ne)⟩
theorem So.lt {Z : State} {h : Heap} {a : Nat} {u_phrases u_sourceGivenTarget u_targetGivenSource u_size : Value} (S : So Z h a u_phrases u_sourceGivenTarget u_targetGivenSource u_size) : a < h.size := S.1.lt
theorem So.put_phrases {Z : State} {h h' : Heap} {a : Nat} {u_phrases u_sourceGivenTarget u_targetGivenSource u_size u : Value} {a0 : Array Value} (S : So Z h a u_phrases u_sourceGivenTarget u_targetGivenSource u_size) (hw : ∀ d ∈ tables_1, d.before a0 Z = true) (W : Wr h h' a (Jvm.RoadKit.slotOf Z "com/example/weaverbird/weaverbird/paraphrases/SourceRows" "phrases" "[I") u) : So Z h' a u u_sourceGivenTarget u_targetGivenSource u_size := ⟨Exa.wr W S.1, Fld.same W (S.2.1), Fld.other W (S.2.2.1) (Or.inr (slot_ne (C := "com/example/weaverbird/weaverbird/paraphrases/SourceRows") (Or.inl (hw _ (List.mem_of_getElem? (i := 15) rfl))) (Or.inl (hw _ (List.mem_of_getElem? (i := 12) rfl))) (by decide) (t := (.array .double)) (by decide) (t' := (.array .int)) (by decide))), Fld.other W (S.2.2.2.1) (Or.inr (slot_ne (C := "com/example/weaverbird/weaverbird/paraphrases/SourceRows") (Or.inl (hw _ (List.mem_of_getElem? (i := 17) rfl))) (Or.inl (hw _ (List.mem_of_getElem? (i := 12) rfl))) (by decide) (t := (.array .double)) (by decide) (t' := (.array .int)) (by decide))), Fld.other W (S.2.2.2.2) (Or.inr (slot_ne (C := "com/example/weaverbird/weaverbird/paraphrases/SourceRows") (Or.inl (hw _ (List.mem_of_getElem? (i := 24) rfl))) (Or.inl (hw _ (List.mem_of_getElem? (i := 12) rfl))) (by decide) (t := .int) (by decide) (t' := (.array .int)) (by decide)))⟩
theorem So.put_sourceGivenTarget {Z : State} {h h' : Heap} {a : Nat} {u_phrases u_sourceGivenTarget u_targetGivenSource u_size u : Value} {a0 : Array Value} (S : So Z h a u_phrases u_sourceGivenTarget u_targetGivenSource u_size) (hw : ∀ d ∈ tables_1, d.before a0 Z = true) (W : Wr h h' a (Jvm.RoadKit.slotOf Z "com/example/weaverbird/weaverbird/paraphrases/SourceRows" "sourceGivenTarget" "[D") u) : So Z h' a u_phrases u u_targetGivenSource u_size := ⟨Exa.wr W S.1, Fld.other W (S.2.1) (Or.inr (slot_ne (C := "com/example/weaverbird/weaverbird/paraphrases/SourceRows") (Or.inl (hw _ (List.mem_of_getElem? (i := 12) rfl))) (Or.inl (hw _ (List.mem_of_getElem? (i := 15) rfl))) (by decide) (t := (.array .int)) (by decide) (t' := (.array .double)) (by decide))), Fld.same W (S.2.2.1), Fld.other W (S.2.2.2.1) (Or.inr (slot_ne (C := "com/example/weaverbird/weaverbird/paraphrases/SourceRows") (Or.inl (hw _ (List.mem_of_getElem? (i := 17) rfl))) (Or.inl (hw _ (List.mem_of_getElem? (i := 15) rfl))) (by decide) (t := (.array .double)) (by decide) (t' := (.array .double)) (by decide))), Fld.other W (S.2.2.2.2) (Or.inr (slot_ne (C := "com/example/weaverbird/weaverbird/paraphrases/SourceRows") (Or.inl (hw _ (List.mem_of_getElem? (i := 24) rfl))) (Or.inl (hw _ (List.mem_of_getElem? (i := 15) rfl))) (by decide) (t := .int) (by decide) (t' := (.array .double)) (by decide)))⟩
theorem So.put_targetGivenSource {Z : State} {h h' : Heap} {a : Nat} {u_phrases u_sourceGivenTarget u_targetGivenSource u_size u : Value} {a0 : Array Value} (S : So Z h a u_phrases u_sourceGivenTarget u_targetGivenSource u_size) (hw : ∀ d ∈ tables_1, d.before a0 Z = true) (W : Wr h h' a (Jvm.RoadKit.slotOf Z "com/example/weaverbird/weaverbird/paraphrases/SourceRows" "targetGivenSource" "[D") u) : So Z h' a u_phrases u_sourceGivenTarget u u_size := ⟨Exa.wr W S.1, Fld.other W (S.2.1) (Or.inr (slot_ne (C := "com/example/weaverbird/weaverbird/paraphrases/SourceRows") (Or.inl (hw _ (List.mem_of_getElem? (i := 12) rfl))) (Or.inl (hw _ (List.mem_of_getElem? (i := 17) rfl))) (by decide) (t := (.array .int)) (by decide) (t' := (.array .double)) (by decide))), Fld.other W (S.2.2.1) (Or.inr (slot_ne (C := "com/example/weaverbird/weaverbird/paraphrases/SourceRows") (Or.inl (hw _ (List.mem_of_getElem? (i := 15) rfl))) (Or.inl (hw _ (List.mem_of_getElem? (i := 17) rfl))) (by decide) (t := (.array .double)) (by decide) (t' := (.array .double)) (by decide))), Fld.same W (S.2.2.2.1), Fld.other W (S.2.2.2.2) (Or.inr (slot_ne (C := "com/example/weaverbird/weaverbird/paraphrases/SourceRows") (Or.inl (hw _ (List.mem_of_getElem? (i := 24) rfl))) (Or.inl (hw _ (List.mem_of_getElem? (i := 17) rfl))) (by decide) (t := .int) (by decide) (t' := (.array .double)) (by decide)))⟩
theorem So.put_size {Z : State} {h h' : Heap} {a : Nat} {u_phrases u_sourceGivenTarget u_targetGivenSource u_size u : Value} {a0 : Array Value} (S : So Z h a u_phrases u_sourceGivenTarget u_targetGivenSource u_size) (hw : ∀ d ∈ tables_1, d.before a0 Z = true) (W : Wr h h' a (Jvm.RoadKit.slotOf Z "com/example/weaverbird/weaverbird/paraphrases/SourceRows" "size" "I") u) : So Z h' a u_phrases u_sourceGivenTarget u_targetGivenSource u := ⟨Exa.wr W S.1, Fld.other W (S.2.1) (Or.inr (slot_ne (C := "com/example/weaverbird/weaverbird/paraphrases/SourceRows") (Or.inl (hw _ (List.mem_of_getElem? (i := 12) rfl))) (Or.inl (hw _ (List.mem_of_getElem? (i := 24) rfl))) (by decide) (t := (.array .int)) (by decide) (t' := .int) (by decide))), Fld.other W (S.2.2.1) (Or.inr (slot_ne (C := "com/example/weaverbird/weaverbird/paraphrases/SourceRows") (Or.inl (hw _ (List.mem_of_getElem? (i := 15) rfl))) (Or.inl (hw _ (List.mem_of_getElem? (i := 24) rfl))) (by decide) (t := (.array .double)) (by decide) (t' := .int) (by decide))), Fld.other W (S.2.2.2.1) (Or.inr (slot_ne (C := "com/example/weaverbird/weaverbird/paraphrases/SourceRows") (Or.inl (hw _ (List.mem_of_getElem? (i := 17) rfl))) (Or.inl (hw _ (List.mem_of_getElem? (i := 24) rfl))) (by decide) (t := (.array .double)) (by decide) (t' := .int) (by decide))), Fld.same W (S.2.2.2.2)⟩
def Fa (Z : State) (h : Heap) (t : Nat) (f : Nat → Int32) : Prop := ∃ cl : Cell, Arr Z h t cl .int ∧ cl.slots.size = 4 ∧ ∀ i, i < 4 → cl.slots[i]? = some (.int (f i))
theorem Fa.far {Z : State} {h h' : Heap} {t b : Nat} {f : Nat → Int32} {sl : Nat} {v : Value} (F : Fa Z h t f) (W : Wr h h' b sl v) (ne : t ≠ b) : Fa Z h' t f := by obtain ⟨cl, A, e⟩ := F; exact ⟨cl, A.other W ne, e⟩
theorem Fa.lt {Z : State} {h : Heap} {t : Nat} {f : Nat → Int32} (F : Fa Z h t f) : t < h.size := by obtain ⟨cl, A, -⟩ := F; exact A.lt
theorem Fa.put {Z : State} {h h' : Heap} {t : Nat} {f : Nat → Int32} {k : Nat} {x : Int32} (F : Fa Z h t f) (W : Wr h h' t k (.int x)) : Fa Z h' t (fun i => if i = k then x else f i) := by
  obtain ⟨cl, A, sz, H⟩ := F
  refine ⟨_, Arr.same W A, by rw [sz_set]; exact sz, fun i hi => ?_⟩
  simp only [Cell.setSlot, Array.getElem?_setIfInBounds, sz]
  by_cases e : k = i
  · subst e; simp [hi]
  · rw [if_neg e, H i hi, if_neg (fun q => e q.symm)]
theorem Fa.of {Z : State} {h : Heap} {t : Nat} (F : Arl Z h t .int [.int (-1 : Int32), .int (-1 : Int32), .int (-1 : Int32), .int (-1 : Int32)]) : Fa Z h t (fun _ => (-1 : Int32)) := by
  obtain ⟨cl, A, e⟩ := F
  refine ⟨cl, A, by rw [e]; rfl, fun i hi => ?_⟩
  rw [e]
  match i, hi with
  | 0, _ => rfl
  | 1, _ => rfl
  | 2, _ => rfl
  | 3, _ => rfl
theorem in4 {j : Int32} {k : Nat} {cl : Cell} (e : cl.slots.size = 4) (hj : j.toInt = k) (hk : k < 4) : ¬ (j < 0 ∨ cl.slots.size ≤ j.toNatClampNeg) := by
  have e1 : (0 : Int32).toInt = 0 := rfl
  have e2 : j.toNatClampNeg = j.toInt.toNat := rfl
  rw [Int32.lt_iff_toInt_lt]
  omega
theorem ldF {κ : Cx} {l : Launch} {Z : State} {own nm : String} {code : ByteArray} {ml : Nat} {ret : Option FieldType} {R : Room} {n0 : Nat} {h : Heap} {cells slots pc q : Nat} {Ls : Array Slot} {St : List Value} {f : Nat → Int32} {j x : Int32} {t : Nat}
    (w : Wk κ l Z own nm code ml ret R n0 h cells slots pc Ls (.int j :: .ref t :: St)) (F : Fa Z h t f) (k : Nat) (hj : j.toInt = k) (hk : k < 4) (hx : f k = x) (hd : decode code pc = .ok (.iaload, 1)) (hq : pc + 1 = q) : Wk κ l Z own nm code ml ret R n0 h cells slots q Ls (.int x :: St) := by
  obtain ⟨cl, A, sz, H⟩ := F
  have e2 : j.toNatClampNeg = k := by show j.toInt.toNat = k; omega
  exact w.ldI A (in4 sz hj hk) (by rw [e2, H k hk, hx]) hd hq
theorem stF {κ : Cx} {l : Launch} {Z : State} {own nm : String} {code : ByteArray} {ml : Nat} {ret : Option FieldType} {R : Room} {n0 : Nat} {h : Heap} {cells slots pc q : Nat} {Ls : Array Slot} {St : List Value} {f : Nat → Int32} {j x : Int32} {t : Nat}
    (w : Wk κ l Z own nm code ml ret R n0 h cells slots pc Ls (.int x :: .int j :: .ref t :: St)) (F : Fa Z h t f) (k : Nat) (hj : j.toInt = k) (hk : k < 4) (ge : n0 ≤ t) (hd : decode code pc = .ok (.iastore, 1)) (hq : pc + 1 = q) : ∃ h', Wr h h' t k (.int x) ∧ Wk κ l Z own nm code ml ret R n0 h' cells slots q Ls St := by
  obtain ⟨cl, A, sz, H⟩ := F
  have e2 : j.toNatClampNeg = k := by show j.toInt.toNat = k; omega
  have r := w.stI A (in4 sz hj hk) hd ge hq
  rw [e2] at r
  exact r
def Sr (Z : State) (h : Heap) (n0 : Nat) (a ph sg tg rw ep es et : Nat) (sz : Int32) (pl sl tl : List Value) (f : Nat → Int32) (el fl gl : List Value) : Prop := So Z h a (.ref ph) (.ref sg) (.ref tg) (.int sz) ∧ Arl Z h ph .int pl ∧ Arl Z h sg .double sl ∧ Arl Z h tg .double tl ∧ Fa Z h rw f ∧ Arl Z h ep .int el ∧ Arl Z h es .int fl ∧ Arl Z h et .int gl ∧ (n0 ≤ rw ∧ rw < ep ∧ ep < es ∧ es < et ∧ et < a ∧ a < ph ∧ ph < sg ∧ sg < tg)
theorem Sr.setPh {Z : State} {h h' : Heap} {n0 : Nat} {a ph sg tg rw ep es et : Nat} {sz : Int32} {pl sl tl : List Value} {f : Nat → Int32} {el fl gl : List Value} {k : Nat} {v : Value} (S : Sr Z h n0 a ph sg tg rw ep es et sz pl sl tl f el fl gl) (W : Wr h h' ph k v) : Sr Z h' n0 a ph sg tg rw ep es et sz (pl.set k v) sl tl f el fl gl := by
  obtain ⟨o, p1, p2, p3, p4, p5, p6, p7, q⟩ := S
  exact ⟨o.far W (by omega), p1.put W, p2.far W (by omega), p3.far W (by omega), p4.far W (by omega), p5.far W (by omega), p6.far W (by omega), p7.far W (by omega), q⟩
theorem Sr.setSg {Z : State} {h h' : Heap} {n0 : Nat} {a ph sg tg rw ep es et : Nat} {sz : Int32} {pl sl tl : List Value} {f : Nat → Int32} {el fl gl : List Value} {k : Nat} {v : Value} (S : Sr Z h n0 a ph sg tg rw ep es et sz pl sl tl f el fl gl) (W : Wr h h' sg k v) : Sr Z h' n0 a ph sg tg rw ep es et sz pl (sl.set k v) tl f el fl gl := by
  obtain ⟨o, p1, p2, p3, p4, p5, p6, p7, q⟩ := S
  exact ⟨o.far W (by omega), p1.far W (by omega), p2.put W, p3.far W (by omega), p4.far W (by omega), p5.far W (by omega), p6.far W (by omega), p7.far W (by omega), q⟩
theorem Sr.setTg {Z : State} {h h' : Heap} {n0 : Nat} {a ph sg tg rw ep es et : Nat} {sz : Int32} {pl sl tl : List Value} {f : Nat → Int32} {el fl gl : List Value} {k : Nat} {v : Value} (S : Sr Z h n0 a ph sg tg rw ep es et sz pl sl tl f el fl gl) (W : Wr h h' tg k v) : Sr Z h' n0 a ph sg tg rw ep es et sz pl sl (tl.set k v) f el fl gl := by
  obtain ⟨o, p1, p2, p3, p4, p5, p6, p7, q⟩ := S
  exact ⟨o.far W (by omega), p1.far W (by omega), p2.far W (by omega), p3.put W, p4.far W (by omega), p5.far W (by omega), p6.far W (by omega), p7.far W (by omega), q⟩
theorem Sr.setRw {Z : State} {h h' : Heap} {n0 : Nat} {a ph sg tg rw ep es et : Nat} {sz : Int32} {pl sl tl : List Value} {f : Nat → Int32} {el fl gl : List Value} {k : Nat} {x : Int32} (S : Sr Z h n0 a ph sg tg rw ep es et sz pl sl tl f el fl gl) (W : Wr h h' rw k (.int x)) : Sr Z h' n0 a ph sg tg rw ep es et sz pl sl tl (fun i => if i = k then x else f i) el fl gl := by
  obtain ⟨o, p1, p2, p3, p4, p5, p6, p7, q⟩ := S
  exact ⟨o.far W (by omega), p1.far W (by omega), p2.far W (by omega), p3.far W (by omega), p4.put W, p5.far W (by omega), p6.far W (by omega), p7.far W (by omega), q⟩
theorem Sr.setEp {Z : State} {h h' : Heap} {n0 : Nat} {a ph sg tg rw ep es et : Nat} {sz : Int32} {pl sl tl : List Value} {f : Nat → Int32} {el fl gl : List Value} {k : Nat} {v : Value} (S : Sr Z h n0 a ph sg tg rw ep es et sz pl sl tl f el fl gl) (W : Wr h h' ep k v) : Sr Z h' n0 a ph sg tg rw ep es et sz pl sl tl f (el.set k v) fl gl := by
  obtain ⟨o, p1, p2, p3, p4, p5, p6, p7, q⟩ := S
  exact ⟨o.far W (by omega), p1.far W (by omega), p2.far W (by omega), p3.far W (by omega), p4.far W (by omega), p5.put W, p6.far W (by omega), p7.far W (by omega), q⟩
theorem Sr.setEs {Z : State} {h h' : Heap} {n0 : Nat} {a ph sg tg rw ep es et : Nat} {sz : Int32} {pl sl tl : List Value} {f : Nat → Int32} {el fl gl : List Value} {k : Nat} {v : Value} (S : Sr Z h n0 a ph sg tg rw ep es et sz pl sl tl f el fl gl) (W : Wr h h' es k v) : Sr Z h' n0 a ph sg tg rw ep es et sz pl sl tl f el (fl.set k v) gl := by
  obtain ⟨o, p1, p2, p3, p4, p5, p6, p7, q⟩ := S
  exact ⟨o.far W (by omega), p1.far W (by omega), p2.far W (by omega), p3.far W (by omega), p4.far W (by omega), p5.far W (by omega), p6.put W, p7.far W (by omega), q⟩
theorem Sr.setEt {Z : State} {h h' : Heap} {n0 : Nat} {a ph sg tg rw ep es et : Nat} {sz : Int32} {pl sl tl : List Value} {f : Nat → Int32} {el fl gl : List Value} {k : Nat} {v : Value} (S : Sr Z h n0 a ph sg tg rw ep es et sz pl sl tl f el fl gl) (W : Wr h h' et k v) : Sr Z h' n0 a ph sg tg rw ep es et sz pl sl tl f el fl (gl.set k v) := by
  obtain ⟨o, p1, p2, p3, p4, p5, p6, p7, q⟩ := S
  exact ⟨o.far W (by omega), p1.far W (by omega), p2.far W (by omega), p3.far W (by omega), p4.far W (by omega), p5.far W (by omega), p6.far W (by omega), p7.put W, q⟩
theorem Sr.put_size {Z : State} {h h' : Heap} {n0 : Nat} {a ph sg tg rw ep es et : Nat} {sz : Int32} {pl sl tl : List Value} {f : Nat → Int32} {el fl gl : List Value} {a0 : Array Value} {u : Int32} (S : Sr Z h n0 a ph sg tg rw ep es et sz pl sl tl f el fl gl) (hw : ∀ d ∈ tables_1, d.before a0 Z = true) (W : Wr h h' a (Jvm.RoadKit.slotOf Z "com/example/weaverbird/weaverbird/paraphrases/SourceRows" "size" "I") (.int u)) : Sr Z h' n0 a ph sg tg rw ep es et u pl sl tl f el fl gl := by
  obtain ⟨o, p1, p2, p3, p4, p5, p6, p7, q⟩ := S
  exact ⟨o.put_size hw W, p1.far W (by omega), p2.far W (by omega), p3.far W (by omega), p4.far W (by omega), p5.far W (by omega), p6.far W (by omega), p7.far W (by omega), q⟩
theorem Sr.z0 {Z : State} {h : Heap} {n0 : Nat} {a ph sg tg rw ep es et : Nat} {sz : Int32} {pl sl tl : List Value} {f : Nat → Int32} {el fl gl : List Value} (S : Sr Z h n0 a ph sg tg rw ep es et sz pl sl tl f el fl gl) : n0 ≤ h.size := by
  have q := S.2.2.2.2.2.2.2.2
  have r := S.1.lt
  omega
theorem Sr.ge {Z : State} {h : Heap} {n0 : Nat} {a ph sg tg rw ep es et : Nat} {sz : Int32} {pl sl tl : List Value} {f : Nat → Int32} {el fl gl : List Value} (S : Sr Z h n0 a ph sg tg rw ep es et sz pl sl tl f el fl gl) : n0 ≤ a ∧ n0 ≤ ph ∧ n0 ≤ sg ∧ n0 ≤ tg ∧ n0 ≤ rw ∧ n0 ≤ ep ∧ n0 ≤ es ∧ n0 ≤ et := by
  have q := S.2.2.2.2.2.2.2.2
  omega
theorem own_add {x y z : Int32} (e : x + y = z) (b1 : 0 ≤ x.toInt) (b2 : x.toInt < 1073741824) (b3 : 0 ≤ y.toInt) (b4 : y.toInt < 1073741824) : z.toInt = x.toInt + y.toInt := by
  have h1 := c_iadd x y
  have h2 := rng32 (x + y)
  rw [e] at h1 h2
  omega
theorem own_b53 (x : Int32) : B53 x.toInt64 := by
  have h := c_i2l x
  have r := rng32 x
  exact ⟨by omega, by omega⟩
theorem own_dadd {x y z : Int32} (e : x + y = z) (b1 : 0 ≤ x.toInt) (b2 : x.toInt < 1073741824) (b3 : 0 ≤ y.toInt) (b4 : y.toInt < 1073741824) : FP.dadd (FP.i2d x) (FP.i2d y) = FP.i2d z := by
  rw [i2d_w, i2d_w, i2d_w, dadd_w (own_b53 x) (own_b53 y)]
  congr 1
  apply Int64.toInt_inj.mp
  rw [add64 (own_b53 x) (own_b53 y), c_i2l, c_i2l, c_i2l]
  exact (own_add e b1 b2 b3 b4).symm
theorem own_nn (x : Int32) : Jvm.Free.Fl.NoNaN64 (FP.i2d x) := (Jvm.Free.Fl.i2d_fin x).noNaN
theorem own_same {x y k : Int32} {o : CmpOp} (h : cmpValue (FP.dcmp (FP.i2d x) (FP.i2d y)) o = k) (e : x.toInt = y.toInt) : k.toInt = 0 := by
  have : x = y := Int32.toInt_inj.mp e
  subst this h
  rw [dcmpV_self (own_nn x) o]; rfl
theorem own_m3 {x z : Int32} (e : x &&& (3 : Int32) = z) : ∃ m : Nat, z.toInt = m ∧ m < 4 := by
  have h := c_mask x 3 2 (by decide) (by decide)
  rw [e] at h
  have : ((2 ^ 2 : Nat) : Int) = 4 := by decide
  exact ⟨z.toInt.toNat, by omega, by omega⟩
theorem own_m16 {x z : Int32} (e : x &&& (65535 : Int32) = z) : 0 ≤ z.toInt ∧ z.toInt < 65536 := by
  have h := c_mask x 65535 16 (by decide) (by decide)
  rw [e] at h
  have : ((2 ^ 16 : Nat) : Int) = 65536 := by decide
  omega
theorem own_u16 {x z : Int32} (e : XT.ushr x (16 : Int32) = z) : 0 ≤ z.toInt ∧ z.toInt < 65536 := by
  have h := c_iushr x 16 16 (by decide) (by decide)
  have e' : z.toInt = (x.toInt % 4294967296) / (2 ^ 16 : Nat) := by rw [← e]; exact h
  have : ((2 ^ 16 : Nat) : Int) = 65536 := by decide
  omega
set_option maxRecDepth 65536 in
set_option maxHeartbeats 40000000 in
theorem own_init (l : Launch) (Z : State) (a0 : Array Value) (hw : ∀ d ∈ tables_1, d.before a0 Z = true) (h0 : Heap) (n0 : Nat) (Z0 : n0 ≤ h0.size) (a : Nat) (ge : n0 ≤ a) (S : So Z h0 a .null .null .null (.int 0)) :
    Met l Z (⟨"com/example/weaverbird/weaverbird/paraphrases/SourceRows", "<init>", "()V"⟩ : MethodName) prog_106_method_1_code 1 none ({ frames := 1, cells := 3, slots := 48, locals := 12 } : Room) n0 #[(.ref a)] h0 (fun v h => v = none ∧ ∃ ph sg tg : Nat, So Z h a (.ref ph) (.ref sg) (.ref tg) (.int 0) ∧ Arl Z h ph .int [.int 0, .int 0, .int 0, .int 0, .int 0, .int 0, .int 0, .int 0, .int 0, .int 0, .int 0, .int 0, .int 0, .int 0, .int 0, .int 0] ∧ Arl Z h sg .double [.double 0, .double 0, .double 0, .double 0, .double 0, .double 0, .double 0, .double 0, .double 0, .double 0, .double 0, .double 0, .double 0, .double 0, .double 0, .double 0] ∧ Arl Z h tg .double [.double 0, .double 0, .double 0, .double 0, .double 0, .double 0, .double 0, .double 0, .double 0, .double 0, .double 0, .double 0, .double 0, .double 0, .double 0, .double 0] ∧ (a < ph ∧ ph < sg ∧ sg < tg) ∧ Keep h0 h [a]) := by
  refine Met.of (Ls := #[.val (.ref a)]) (plainFor_of_name pn_0) (fun m => by first | (simp [entryFrame, mkF, argsToLocals, Value.category, maxLocals]; done) | rfl) (fun κ w => ?_)
  replace w : Wk κ l Z "com/example/weaverbird/weaverbird/paraphrases/SourceRows" "<init>" prog_106_method_1_code 1 none ({ frames := 1, cells := 3, slots := 48, locals := 12 } : Room) n0 h0 0 0 0 #[.val (.ref a)] [] := w
  have K := Keep.refl h0 [a]
  replace w := w.aloadN (q := 1) (v := (.ref a)) dp106m1_0 rfl rfl rfl
  replace w := w.initO (q := 4) (hw _ (List.mem_of_getElem? (i := 8) rfl)) (hw _ (List.mem_of_getElem? (i := 9) rfl)) (hw _ (List.mem_of_getElem? (i := 10) rfl)) dp106m1_1 rfl (by decide) (W := 0) (Nat.le_of_eq rfl) (by decide) rfl
  replace w := w.aloadN (q := 5) (v := (.ref a)) dp106m1_4 rfl rfl rfl
  replace w := w.bipush (q := 7) (z := (16 : Int32)) dp106m1_5 (by decide) rfl
  obtain ⟨h1, ph, cph, eph, Eph, Aph, w⟩ := w.newP (q := 9) (cap := 16) (ty := .int) (hw _ (List.mem_of_getElem? (i := 1) rfl)) rfl dp106m1_7 (by decide) (by decide) (by decide) (by decide) (by decide) rfl
  have lt_ph : a < ph := by rw [eph]; exact S.lt
  replace S := S.ext Eph
  replace K := K.ext Eph
  have Fph : Arl Z h1 ph .int [.int 0, .int 0, .int 0, .int 0, .int 0, .int 0, .int 0, .int 0, .int 0, .int 0, .int 0, .int 0, .int 0, .int 0, .int 0, .int 0] := Arl.new Aph rfl
  obtain ⟨h2, W3, w⟩ := w.putF (q := 12) (C := "com/example/weaverbird/weaverbird/paraphrases/SourceRows") (hw _ (List.mem_of_getElem? (i := 11) rfl)) (S.2.1) (S.1) (Or.inl (hw _ (List.mem_of_getElem? (i := 12) rfl))) (hw _ (List.mem_of_getElem? (i := 3) rfl)) (ty := (.array .int)) (by decide) rfl rfl dp106m1_9 (ge) rfl
  replace S := S.put_phrases hw W3
  replace K := K.wr W3 (Or.inl (List.mem_of_getElem? (i := 0) rfl))
  replace Fph := Fph.far W3 (by omega)
  replace w := w.aloadN (q := 13) (v := (.ref a)) dp106m1_12 rfl rfl rfl
  replace w := w.bipush (q := 15) (z := (16 : Int32)) dp106m1_13 (by decide) rfl
  obtain ⟨h4, sg, csg, esg, Esg, Asg, w⟩ := w.newP (q := 17) (cap := 16) (ty := .double) (hw _ (List.mem_of_getElem? (i := 13) rfl)) rfl dp106m1_15 (by decide) (by decide) (by decide) (by decide) (by decide) rfl
  have lt_sg : a < sg := by rw [esg]; exact S.lt
  have lt_ph_sg : ph < sg := by rw [esg]; exact Fph.lt
  replace S := S.ext Esg
  replace K := K.ext Esg
  replace Fph := Fph.ext Esg
  have Fsg : Arl Z h4 sg .double [.double 0, .double 0, .double 0, .double 0, .double 0, .double 0, .double 0, .double 0, .double 0, .double 0, .double 0, .double 0, .double 0, .double 0, .double 0, .double 0] := Arl.new Asg rfl
  obtain ⟨h5, W6, w⟩ := w.putF (q := 20) (C := "com/example/weaverbird/weaverbird/paraphrases/SourceRows") (hw _ (List.mem_of_getElem? (i := 14) rfl)) (S.2.2.1) (S.1) (Or.inl (hw _ (List.mem_of_getElem? (i := 15) rfl))) (hw _ (List.mem_of_getElem? (i := 3) rfl)) (ty := (.array .double)) (by decide) rfl rfl dp106m1_17 (ge) rfl
  replace S := S.put_sourceGivenTarget hw W6
  replace K := K.wr W6 (Or.inl (List.mem_of_getElem? (i := 0) rfl))
  replace Fph := Fph.far W6 (by omega)
  replace Fsg := Fsg.far W6 (by omega)
  replace w := w.aloadN (q := 21) (v := (.ref a)) dp106m1_20 rfl rfl rfl
  replace w := w.bipush (q := 23) (z := (16 : Int32)) dp106m1_21 (by decide) rfl
  obtain ⟨h7, tg, ctg, etg, Etg, Atg, w⟩ := w.newP (q := 25) (cap := 16) (ty := .double) (hw _ (List.mem_of_getElem? (i := 13) rfl)) rfl dp106m1_23 (by decide) (by decide) (by decide) (by decide) (by decide) rfl
  have lt_tg : a < tg := by rw [etg]; exact S.lt
  have lt_ph_tg : ph < tg := by rw [etg]; exact Fph.lt
  have lt_sg_tg : sg < tg := by rw [etg]; exact Fsg.lt
  replace S := S.ext Etg
  replace K := K.ext Etg
  replace Fph := Fph.ext Etg
  replace Fsg := Fsg.ext Etg
  have Ftg : Arl Z h7 tg .double [.double 0, .double 0, .double 0, .double 0, .double 0, .double 0, .double 0, .double 0, .double 0, .double 0, .double 0, .double 0, .double 0, .double 0, .double 0, .double 0] := Arl.new Atg rfl
  obtain ⟨h8, W9, w⟩ := w.putF (q := 28) (C := "com/example/weaverbird/weaverbird/paraphrases/SourceRows") (hw _ (List.mem_of_getElem? (i := 16) rfl)) (S.2.2.2.1) (S.1) (Or.inl (hw _ (List.mem_of_getElem? (i := 17) rfl))) (hw _ (List.mem_of_getElem? (i := 3) rfl)) (ty := (.array .double)) (by decide) rfl rfl dp106m1_25 (ge) rfl
  replace S := S.put_targetGivenSource hw W9
  replace K := K.wr W9 (Or.inl (List.mem_of_getElem? (i := 0) rfl))
  replace Fph := Fph.far W9 (by omega)
  replace Fsg := Fsg.far W9 (by omega)
  replace Ftg := Ftg.far W9 (by omega)
  exact w.retV dp106m1_28 ⟨rfl, ph, sg, tg, S, Fph, Fsg, Ftg, by omega, K⟩ (by decide) (by decide)
set_option maxRecDepth 65536 in
set_option maxHeartbeats 40000000 in
theorem own_size (l : Launch) (Z : State) (a0 : Array Value) (hw : ∀ d ∈ tables_1, d.before a0 Z = true) (h0 : Heap) (n0 : Nat) (Z0 : n0 ≤ h0.size) (a ph sg tg rw ep es et : Nat) (sz : Int32) (pl sl tl : List Value) (f : Nat → Int32) (el fl gl : List Value) (S : Sr Z h0 n0 a ph sg tg rw ep es et sz pl sl tl f el fl gl) :
    Met l Z (⟨"com/example/weaverbird/weaverbird/paraphrases/SourceRows", "size", "()I"⟩ : MethodName) prog_106_method_4_code 1 (some .int) ({ frames := 0, cells := 0, slots := 0, locals := 0 } : Room) n0 #[(.ref a)] h0 (fun v h => v = some (.int sz) ∧ h = h0) := by
  refine Met.of (Ls := #[.val (.ref a)]) (plainFor_of_name pn_0) (fun m => by first | (simp [entryFrame, mkF, argsToLocals, Value.category, maxLocals]; done) | rfl) (fun κ w => ?_)
  replace w : Wk κ l Z "com/example/weaverbird/weaverbird/paraphrases/SourceRows" "size" prog_106_method_4_code 1 (some .int) ({ frames := 0, cells := 0, slots := 0, locals := 0 } : Room) n0 h0 0 0 0 #[.val (.ref a)] [] := w
  replace w := w.aloadN (q := 1) (v := (.ref a)) dp106m4_0 rfl rfl rfl
  replace w := w.getF (q := 4) (v := (.int sz)) (hw _ (List.mem_of_getElem? (i := 23) rfl)) (S.1.2.2.2.2) dp106m4_1 rfl
  exact w.retI dp106m4_4 ⟨rfl, rfl⟩ (by decide) (by decide)
set_option maxRecDepth 65536 in
set_option maxHeartbeats 40000000 in
theorem own_phrase (l : Launch) (Z : State) (a0 : Array Value) (hw : ∀ d ∈ tables_1, d.before a0 Z = true) (h0 : Heap) (n0 : Nat) (Z0 : n0 ≤ h0.size) (a ph sg tg rw ep es et : Nat) (sz : Int32) (pl sl tl : List Value) (f : Nat → Int32) (el fl gl : List Value) (j : Int32) (i : Nat) (x : Int32) (S : Sr Z h0 n0 a ph sg tg rw ep es et sz pl sl tl f el fl gl) (hi : j.toInt = i) (hv : pl[i]? = some (.int x)) :
    Met l Z (⟨"com/example/weaverbird/weaverbird/paraphrases/SourceRows", "phrase", "(I)I"⟩ : MethodName) prog_106_method_5_code 2 (some .int) ({ frames := 0, cells := 0, slots := 0, locals := 0 } : Room) n0 #[(.ref a), (.int j)] h0 (fun v h => v = some (.int x) ∧ h = h0) := by
  refine Met.of (Ls := #[.val (.ref a), .val (.int j)]) (plainFor_of_name pn_0) (fun m => by first | (simp [entryFrame, mkF, argsToLocals, Value.category, maxLocals]; done) | rfl) (fun κ w => ?_)
  replace w : Wk κ l Z "com/example/weaverbird/weaverbird/paraphrases/SourceRows" "phrase" prog_106_method_5_code 2 (some .int) ({ frames := 0, cells := 0, slots := 0, locals := 0 } : Room) n0 h0 0 0 0 #[.val (.ref a), .val (.int j)] [] := w
  replace w := w.aloadN (q := 1) (v := (.ref a)) dp106m5_0 rfl rfl rfl
  replace w := w.getF (q := 4) (v := (.ref ph)) (hw _ (List.mem_of_getElem? (i := 11) rfl)) (S.1.2.1) dp106m5_1 rfl
  replace w := w.iloadN (q := 5) (v := j) dp106m5_4 rfl rfl
  replace w := w.ldIl (q := 6) (v := (.int x)) (S.2.1) i hi hv dp106m5_5 rfl
  exact w.retI dp106m5_6 ⟨rfl, rfl⟩ (by decide) (by decide)
set_option maxRecDepth 65536 in
set_option maxHeartbeats 40000000 in
theorem own_sourceGivenTarget (l : Launch) (Z : State) (a0 : Array Value) (hw : ∀ d ∈ tables_1, d.before a0 Z = true) (h0 : Heap) (n0 : Nat) (Z0 : n0 ≤ h0.size) (a ph sg tg rw ep es et : Nat) (sz : Int32) (pl sl tl : List Value) (f : Nat → Int32) (el fl gl : List Value) (j : Int32) (i : Nat) (x : UInt64) (S : Sr Z h0 n0 a ph sg tg rw ep es et sz pl sl tl f el fl gl) (hi : j.toInt = i) (hv : sl[i]? = some (.double x)) :
    Met l Z (⟨"com/example/weaverbird/weaverbird/paraphrases/SourceRows", "sourceGivenTarget", "(I)D"⟩ : MethodName) prog_106_method_6_code 2 (some .double) ({ frames := 0, cells := 0, slots := 0, locals := 0 } : Room) n0 #[(.ref a), (.int j)] h0 (fun v h => v = some (.double x) ∧ h = h0) := by
  refine Met.of (Ls := #[.val (.ref a), .val (.int j)]) (plainFor_of_name pn_0) (fun m => by first | (simp [entryFrame, mkF, argsToLocals, Value.category, maxLocals]; done) | rfl) (fun κ w => ?_)
  replace w : Wk κ l Z "com/example/weaverbird/weaverbird/paraphrases/SourceRows" "sourceGivenTarget" prog_106_method_6_code 2 (some .double) ({ frames := 0, cells := 0, slots := 0, locals := 0 } : Room) n0 h0 0 0 0 #[.val (.ref a), .val (.int j)] [] := w
  replace w := w.aloadN (q := 1) (v := (.ref a)) dp106m6_0 rfl rfl rfl
  replace w := w.getF (q := 4) (v := (.ref sg)) (hw _ (List.mem_of_getElem? (i := 14) rfl)) (S.1.2.2.1) dp106m6_1 rfl
  replace w := w.iloadN (q := 5) (v := j) dp106m6_4 rfl rfl
  replace w := w.ldDl (q := 6) (v := (.double x)) (S.2.2.1) i hi hv dp106m6_5 rfl
  exact w.retD dp106m6_6 ⟨rfl, rfl⟩ (by decide) (by decide)
set_option maxRecDepth 65536 in
set_option maxHeartbeats 40000000 in
theorem own_targetGivenSource (l : Launch) (Z : State) (a0 : Array Value) (hw : ∀ d ∈ tables_1, d.before a0 Z = true) (h0 : Heap) (n0 : Nat) (Z0 : n0 ≤ h0.size) (a ph sg tg rw ep es et : Nat) (sz : Int32) (pl sl tl : List Value) (f : Nat → Int32) (el fl gl : List Value) (j : Int32) (i : Nat) (x : UInt64) (S : Sr Z h0 n0 a ph sg tg rw ep es et sz pl sl tl f el fl gl) (hi : j.toInt = i) (hv : tl[i]? = some (.double x)) :
    Met l Z (⟨"com/example/weaverbird/weaverbird/paraphrases/SourceRows", "targetGivenSource", "(I)D"⟩ : MethodName) prog_106_method_7_code 2 (some .double) ({ frames := 0, cells := 0, slots := 0, locals := 0 } : Room) n0 #[(.ref a), (.int j)] h0 (fun v h => v = some (.double x) ∧ h = h0) := by
  refine Met.of (Ls := #[.val (.ref a), .val (.int j)]) (plainFor_of_name pn_0) (fun m => by first | (simp [entryFrame, mkF, argsToLocals, Value.category, maxLocals]; done) | rfl) (fun κ w => ?_)
  replace w : Wk κ l Z "com/example/weaverbird/weaverbird/paraphrases/SourceRows" "targetGivenSource" prog_106_method_7_code 2 (some .double) ({ frames := 0, cells := 0, slots := 0, locals := 0 } : Room) n0 h0 0 0 0 #[.val (.ref a), .val (.int j)] [] := w
  replace w := w.aloadN (q := 1) (v := (.ref a)) dp106m7_0 rfl rfl rfl
  replace w := w.getF (q := 4) (v := (.ref tg)) (hw _ (List.mem_of_getElem? (i := 16) rfl)) (S.1.2.2.2.1) dp106m7_1 rfl
  replace w := w.iloadN (q := 5) (v := j) dp106m7_4 rfl rfl
  replace w := w.ldDl (q := 6) (v := (.double x)) (S.2.2.2.1) i hi hv dp106m7_5 rfl
  exact w.retD dp106m7_6 ⟨rfl, rfl⟩ (by decide) (by decide)
set_option maxRecDepth 65536 in
set_option maxHeartbeats 40000000 in
theorem own_row (l : Launch) (Z : State) (a0 : Array Value) (hw : ∀ d ∈ tables_1, d.before a0 Z = true) (h0 : Heap) (n0 : Nat) (Z0 : n0 ≤ h0.size) (a ph sg tg rw ep es et : Nat) (sz : Int32) (pl sl tl : List Value) (f : Nat → Int32) (el fl gl : List Value) (j : Int32) (i : Nat) (P U V E1 E2 E3 : Int32) (S : Sr Z h0 n0 a ph sg tg rw ep es et sz pl sl tl f el fl gl) (hi : j.toInt = i) (h_P : pl[i]? = some (.int P)) (h_U : sl[i]? = some (.double (FP.i2d U))) (h_V : tl[i]? = some (.double (FP.i2d V))) (h_E1 : el[i]? = some (.int E1)) (h_E2 : fl[i]? = some (.int E2)) (h_E3 : gl[i]? = some (.int E3)) (q1 : P.toInt = E1.toInt) (q2 : U.toInt = E2.toInt) (q3 : V.toInt = E3.toInt) :
    Met l Z (⟨"com/example/weaverbird/weaverbird/paraphrases/SourceRowsGatherByPhrasePinLaw", "row", "(Lcom/example/weaverbird/weaverbird/paraphrases/SourceRows;I[I[I[I)Z"⟩ : MethodName) method_3_code 5 (some .boolean) ({ frames := 1, cells := 0, slots := 0, locals := 16 } : Room) n0 #[(.ref a), (.int j), (.ref ep), (.ref es), (.ref et)] h0 (fun v h => v = some (.int 1) ∧ h = h0) := by
  refine Met.of (Ls := #[.val (.ref a), .val (.int j), .val (.ref ep), .val (.ref es), .val (.ref et)]) (plainFor_of_name pn_1) (fun m => by first | (simp [entryFrame, mkF, argsToLocals, Value.category, maxLocals]; done) | rfl) (fun κ w => ?_)
  replace w : Wk κ l Z "com/example/weaverbird/weaverbird/paraphrases/SourceRowsGatherByPhrasePinLaw" "row" method_3_code 5 (some .boolean) ({ frames := 1, cells := 0, slots := 0, locals := 16 } : Room) n0 h0 0 0 0 #[.val (.ref a), .val (.int j), .val (.ref ep), .val (.ref es), .val (.ref et)] [] := w
  replace w := w.aloadN (q := 1) (v := (.ref a)) dlm3_0 rfl rfl rfl
  replace w := w.iloadN (q := 2) (v := j) dlm3_1 rfl rfl
  obtain ⟨_, _, ⟨rfl, eh⟩, w⟩ := w.callV (a := a) (y := (⟨"com/example/weaverbird/weaverbird/paraphrases/SourceRows", "phrase", "(I)I"⟩ : MethodName)) (argsL := [(.int j)]) (rest := []) (own_phrase l Z a0 hw _ n0 S.z0 a ph sg tg rw ep es et sz pl sl tl f el fl gl j i _ S hi h_P) (S.1.1) (hw _ (List.mem_of_getElem? (i := 39) rfl)) (hw _ (List.mem_of_getElem? (i := 40) rfl)) (hw _ (List.mem_of_getElem? (i := 42) rfl)) (hw _ (List.mem_of_getElem? (i := 41) rfl)) (hw _ (List.mem_of_getElem? (i := 4) rfl)) (hw _ (List.mem_of_getElem? (i := 43) rfl)) (by decide) dlm3_2 (lenOf pd_0 rfl) rfl rfl (by decide) (W := 0) (Nat.le_of_eq rfl) (by decide) (by decide) (by decide) (q := 5) rfl
  rw [eh] at w
  replace w := w [(.int P)] rfl
  replace w := w.aloadN (q := 6) (v := (.ref ep)) dlm3_5 rfl rfl rfl
  replace w := w.iloadN (q := 7) (v := j) dlm3_6 rfl rfl
  replace w := w.ldIl (q := 8) (v := (.int E1)) (S.2.2.2.2.2.1) i hi h_E1 dlm3_7 rfl
  obtain ⟨hc8, w⟩ := (w.icmpNe (q := 42) (q' := 11) (xi := P.toInt) (yi := E1.toInt) dlm3_8 rfl rfl (by decide) (by decide) rfl).resolve_left (fun g => by have hc8 := g.1; omega)
  replace w := w.aloadN (q := 12) (v := (.ref a)) dlm3_11 rfl rfl rfl
  replace w := w.iloadN (q := 13) (v := j) dlm3_12 rfl rfl
  obtain ⟨_, _, ⟨rfl, eh⟩, w⟩ := w.callV (a := a) (y := (⟨"com/example/weaverbird/weaverbird/paraphrases/SourceRows", "sourceGivenTarget", "(I)D"⟩ : MethodName)) (argsL := [(.int j)]) (rest := []) (own_sourceGivenTarget l Z a0 hw _ n0 S.z0 a ph sg tg rw ep es et sz pl sl tl f el fl gl j i _ S hi h_U) (S.1.1) (hw _ (List.mem_of_getElem? (i := 44) rfl)) (hw _ (List.mem_of_getElem? (i := 45) rfl)) (hw _ (List.mem_of_getElem? (i := 47) rfl)) (hw _ (List.mem_of_getElem? (i := 46) rfl)) (hw _ (List.mem_of_getElem? (i := 4) rfl)) (hw _ (List.mem_of_getElem? (i := 48) rfl)) (by decide) dlm3_13 (lenOf pd_1 rfl) rfl rfl (by decide) (W := 0) (Nat.le_of_eq rfl) (by decide) (by decide) (by decide) (q := 16) rfl
  rw [eh] at w
  replace w := w [(.double (FP.i2d U))] rfl
  replace w := w.aloadN (q := 17) (v := (.ref es)) dlm3_16 rfl rfl rfl
  replace w := w.iloadN (q := 18) (v := j) dlm3_17 rfl rfl
  replace w := w.ldIl (q := 19) (v := (.int E2)) (S.2.2.2.2.2.2.1) i hi h_E2 dlm3_18 rfl
  replace w := w.i2d (q := 20) (z := FP.i2d E2) dlm3_19 rfl rfl
  obtain ⟨k1, hk1⟩ : ∃ z : Int32, cmpValue (FP.dcmp (FP.i2d U) (FP.i2d E2)) .l = z := ⟨_, rfl⟩
  replace w := w.dcmp (q := 21) dlm3_20 hk1 rfl
  obtain ⟨hc21, w⟩ := (w.ifNe (q := 42) (q' := 24) (xi := k1.toInt) dlm3_21 rfl (by decide) (by decide) rfl).resolve_left (fun g => by have hc21 := g.1; exact hc21 (own_same hk1 q2))
  replace w := w.aloadN (q := 25) (v := (.ref a)) dlm3_24 rfl rfl rfl
  replace w := w.iloadN (q := 26) (v := j) dlm3_25 rfl rfl
  obtain ⟨_, _, ⟨rfl, eh⟩, w⟩ := w.callV (a := a) (y := (⟨"com/example/weaverbird/weaverbird/paraphrases/SourceRows", "targetGivenSource", "(I)D"⟩ : MethodName)) (argsL := [(.int j)]) (rest := []) (own_targetGivenSource l Z a0 hw _ n0 S.z0 a ph sg tg rw ep es et sz pl sl tl f el fl gl j i _ S hi h_V) (S.1.1) (hw _ (List.mem_of_getElem? (i := 49) rfl)) (hw _ (List.mem_of_getElem? (i := 50) rfl)) (hw _ (List.mem_of_getElem? (i := 52) rfl)) (hw _ (List.mem_of_getElem? (i := 51) rfl)) (hw _ (List.mem_of_getElem? (i := 4) rfl)) (hw _ (List.mem_of_getElem? (i := 53) rfl)) (by decide) dlm3_26 (lenOf pd_1 rfl) rfl rfl (by decide) (W := 0) (Nat.le_of_eq rfl) (by decide) (by decide) (by decide) (q := 29) rfl
  rw [eh] at w
  replace w := w [(.double (FP.i2d V))] rfl
  replace w := w.aload (q := 31) (v := (.ref et)) dlm3_29 rfl rfl rfl
  replace w := w.iloadN (q := 32) (v := j) dlm3_31 rfl rfl
  replace w := w.ldIl (q := 33) (v := (.int E3)) (S.2.2.2.2.2.2.2.1) i hi h_E3 dlm3_32 rfl
  replace w := w.i2d (q := 34) (z := FP.i2d E3) dlm3_33 rfl rfl
  obtain ⟨k2, hk2⟩ : ∃ z : Int32, cmpValue (FP.dcmp (FP.i2d V) (FP.i2d E3)) .l = z := ⟨_, rfl⟩
  replace w := w.dcmp (q := 35) dlm3_34 hk2 rfl
  obtain ⟨hc35, w⟩ := (w.ifNe (q := 42) (q' := 38) (xi := k2.toInt) dlm3_35 rfl (by decide) (by decide) rfl).resolve_left (fun g => by have hc35 := g.1; exact hc35 (own_same hk2 q3))
  replace w := w.iconst (q := 39) (z := (1 : Int32)) dlm3_38 (by decide) rfl
  replace w := w.goto (q := 43) dlm3_39 (by decide) (by decide)
  exact w.retZ dlm3_43 (z := 1) (by decide) ⟨rfl, rfl⟩ (by decide) (by decide)
set_option maxRecDepth 65536 in
set_option maxHeartbeats 40000000 in
theorem own_ad (l : Launch) (Z : State) (a0 : Array Value) (hw : ∀ d ∈ tables_1, d.before a0 Z = true) (h0 : Heap) (n0 : Nat) (Z0 : n0 ≤ h0.size) (a ph sg tg rw ep es et : Nat) (sz : Int32) (pl sl tl : List Value) (f : Nat → Int32) (el fl gl : List Value) (i : Nat) (q : Int32) (u v : UInt64) (S : Sr Z h0 n0 a ph sg tg rw ep es et sz pl sl tl f el fl gl) (l1 : pl.length = 16) (l2 : sl.length = 16) (l3 : tl.length = 16) (hi : sz.toInt = i) (hi2 : i < 16) :
    Met l Z (⟨"com/example/weaverbird/weaverbird/paraphrases/SourceRows", "add", "(IDD)V"⟩ : MethodName) prog_106_method_2_code 6 none ({ frames := 0, cells := 0, slots := 0, locals := 0 } : Room) n0 #[(.ref a), (.int q), (.double u), (.double v)] h0 (fun r h => r = none ∧ Sr Z h n0 a ph sg tg rw ep es et (sz + 1) (pl.set i (.int q)) (sl.set i (.double u)) (tl.set i (.double v)) f el fl gl) := by
  refine Met.of (Ls := #[.val (.ref a), .val (.int q), .val (.double u), .second, .val (.double v), .second]) (plainFor_of_name pn_0) (fun m => by first | (simp [entryFrame, mkF, argsToLocals, Value.category, maxLocals]; done) | rfl) (fun κ w => ?_)
  replace w : Wk κ l Z "com/example/weaverbird/weaverbird/paraphrases/SourceRows" "add" prog_106_method_2_code 6 none ({ frames := 0, cells := 0, slots := 0, locals := 0 } : Room) n0 h0 0 0 0 #[.val (.ref a), .val (.int q), .val (.double u), .second, .val (.double v), .second] [] := w
  replace w := w.aloadN (q := 1) (v := (.ref a)) dp106m2_0 rfl rfl rfl
  replace w := w.getF (q := 4) (v := (.int sz)) (hw _ (List.mem_of_getElem? (i := 23) rfl)) (S.1.2.2.2.2) dp106m2_1 rfl
  replace w := w.aloadN (q := 5) (v := (.ref a)) dp106m2_4 rfl rfl rfl
  replace w := w.getF (q := 8) (v := (.ref ph)) (hw _ (List.mem_of_getElem? (i := 11) rfl)) (S.1.2.1) dp106m2_5 rfl
  replace w := w.lenl (q := 9) (z := 16) (S.2.1) (by rw [l1]; rfl) dp106m2_8 rfl
  obtain ⟨hc9, w⟩ := (w.icmpNe (q := 63) (q' := 12) (xi := sz.toInt) (yi := 16) dp106m2_9 rfl rfl (by decide) (by decide) rfl).resolve_right (fun g => by have hc9 := g.1; omega)
  replace w := w.aloadN (q := 64) (v := (.ref a)) dp106m2_63 rfl rfl rfl
  replace w := w.getF (q := 67) (v := (.ref ph)) (hw _ (List.mem_of_getElem? (i := 11) rfl)) (S.1.2.1) dp106m2_64 rfl
  replace w := w.aloadN (q := 68) (v := (.ref a)) dp106m2_67 rfl rfl rfl
  replace w := w.getF (q := 71) (v := (.int sz)) (hw _ (List.mem_of_getElem? (i := 23) rfl)) (S.1.2.2.2.2) dp106m2_68 rfl
  replace w := w.iloadN (q := 72) (v := q) dp106m2_71 rfl rfl
  obtain ⟨h10, W11, w⟩ := w.stIl (q := 73) (S.2.1) i hi (by omega) (S.ge.2.1) dp106m2_72 rfl
  replace S := S.setPh W11
  replace w := w.aloadN (q := 74) (v := (.ref a)) dp106m2_73 rfl rfl rfl
  replace w := w.getF (q := 77) (v := (.ref sg)) (hw _ (List.mem_of_getElem? (i := 14) rfl)) (S.1.2.2.1) dp106m2_74 rfl
  replace w := w.aloadN (q := 78) (v := (.ref a)) dp106m2_77 rfl rfl rfl
  replace w := w.getF (q := 81) (v := (.int sz)) (hw _ (List.mem_of_getElem? (i := 23) rfl)) (S.1.2.2.2.2) dp106m2_78 rfl
  replace w := w.dloadN (q := 82) (v := u) dp106m2_81 rfl rfl
  obtain ⟨h12, W13, w⟩ := w.stDl (q := 83) (S.2.2.1) i hi (by omega) (S.ge.2.2.1) dp106m2_82 rfl
  replace S := S.setSg W13
  replace w := w.aloadN (q := 84) (v := (.ref a)) dp106m2_83 rfl rfl rfl
  replace w := w.getF (q := 87) (v := (.ref tg)) (hw _ (List.mem_of_getElem? (i := 16) rfl)) (S.1.2.2.2.1) dp106m2_84 rfl
  replace w := w.aloadN (q := 88) (v := (.ref a)) dp106m2_87 rfl rfl rfl
  replace w := w.getF (q := 91) (v := (.int sz)) (hw _ (List.mem_of_getElem? (i := 23) rfl)) (S.1.2.2.2.2) dp106m2_88 rfl
  replace w := w.dload (q := 93) (v := v) dp106m2_91 rfl rfl
  obtain ⟨h14, W15, w⟩ := w.stDl (q := 94) (S.2.2.2.1) i hi (by omega) (S.ge.2.2.2.1) dp106m2_93 rfl
  replace S := S.setTg W15
  replace w := w.aloadN (q := 95) (v := (.ref a)) dp106m2_94 rfl rfl rfl
  replace w := w.dup (q := 96) dp106m2_95 rfl rfl
  replace w := w.getF (q := 99) (v := (.int sz)) (hw _ (List.mem_of_getElem? (i := 23) rfl)) (S.1.2.2.2.2) dp106m2_96 rfl
  replace w := w.iconst (q := 100) (z := (1 : Int32)) dp106m2_99 (by decide) rfl
  obtain ⟨s1, hs1⟩ : ∃ z : Int32, sz + (1 : Int32) = z := ⟨_, rfl⟩
  replace w := w.iadd (q := 101) dp106m2_100 hs1 rfl
  obtain ⟨h16, W17, w⟩ := w.putF (q := 104) (C := "com/example/weaverbird/weaverbird/paraphrases/SourceRows") (hw _ (List.mem_of_getElem? (i := 23) rfl)) (S.1.2.2.2.2) (S.1.1) (Or.inl (hw _ (List.mem_of_getElem? (i := 24) rfl))) (hw _ (List.mem_of_getElem? (i := 3) rfl)) (ty := .int) (by decide) rfl rfl dp106m2_101 (S.ge.1) rfl
  replace S := S.put_size hw W17
  exact w.retV dp106m2_104 ⟨rfl, by rw [hs1]; exact S⟩ (by decide) (by decide)
def Pat (m0 m1 m2 : Nat) (q0 q1 q2 u0 u1 u2 v0 v1 v2 : Int32) (s : Int32) (a0 a1 a2 A0 A1 A2 B0 B1 B2 : Int32) : Prop := (m1 = m0 ∧ m2 = m0 ∧ s.toInt = 1 ∧ a0.toInt = q0.toInt ∧ A0.toInt = u0.toInt + u1.toInt + u2.toInt ∧ B0.toInt = v0.toInt + v1.toInt + v2.toInt) ∨ (m1 = m0 ∧ m2 ≠ m0 ∧ s.toInt = 2 ∧ a0.toInt = q0.toInt ∧ A0.toInt = u0.toInt + u1.toInt ∧ B0.toInt = v0.toInt + v1.toInt ∧ a1.toInt = q2.toInt ∧ A1.toInt = u2.toInt ∧ B1.toInt = v2.toInt) ∨ (m1 ≠ m0 ∧ m2 = m0 ∧ s.toInt = 2 ∧ a0.toInt = q0.toInt ∧ A0.toInt = u0.toInt + u2.toInt ∧ B0.toInt = v0.toInt + v2.toInt ∧ a1.toInt = q1.toInt ∧ A1.toInt = u1.toInt ∧ B1.toInt = v1.toInt) ∨ (m1 ≠ m0 ∧ m2 ≠ m0 ∧ m2 = m1 ∧ s.toInt = 2 ∧ a0.toInt = q0.toInt ∧ A0.toInt = u0.toInt ∧ B0.toInt = v0.toInt ∧ a1.toInt = q1.toInt ∧ A1.toInt = u1.toInt + u2.toInt ∧ B1.toInt = v1.toInt + v2.toInt) ∨ (m1 ≠ m0 ∧ m2 ≠ m0 ∧ m2 ≠ m1 ∧ s.toInt = 3 ∧ a0.toInt = q0.toInt ∧ A0.toInt = u0.toInt ∧ B0.toInt = v0.toInt ∧ a1.toInt = q1.toInt ∧ A1.toInt = u1.toInt ∧ B1.toInt = v1.toInt ∧ a2.toInt = q2.toInt ∧ A2.toInt = u2.toInt ∧ B2.toInt = v2.toInt)
set_option maxRecDepth 65536 in
set_option maxHeartbeats 40000000 in
theorem own_ga (l : Launch) (Z : State) (a0 : Array Value) (hw : ∀ d ∈ tables_1, d.before a0 Z = true) (h0 : Heap) (n0 : Nat) (Z0 : n0 ≤ h0.size) (a ph sg tg rw ep es et : Nat) (m0 m1 m2 : Nat) (q0 q1 q2 u0 u1 u2 v0 v1 v2 : Int32) (pt st tt : List Value) (f : Nat → Int32) (el fl gl : List Value) (S : Sr Z h0 n0 a ph sg tg rw ep es et 3 ((.int q0) :: (.int q1) :: (.int q2) :: pt) ((.double (FP.i2d u0)) :: (.double (FP.i2d u1)) :: (.double (FP.i2d u2)) :: st) ((.double (FP.i2d v0)) :: (.double (FP.i2d v1)) :: (.double (FP.i2d v2)) :: tt) f el fl gl) (hf : ∀ i, f i = -1) (hm0 : q0.toInt = m0) (bm0 : m0 < 4) (hm1 : q1.toInt = m1) (bm1 : m1 < 4) (hm2 : q2.toInt = m2) (bm2 : m2 < 4) (bu0 : 0 ≤ u0.toInt ∧ u0.toInt < 65536) (bu1 : 0 ≤ u1.toInt ∧ u1.toInt < 65536) (bu2 : 0 ≤ u2.toInt ∧ u2.toInt < 65536) (bv0 : 0 ≤ v0.toInt ∧ v0.toInt < 65536) (bv1 : 0 ≤ v1.toInt ∧ v1.toInt < 65536) (bv2 : 0 ≤ v2.toInt ∧ v2.toInt < 65536) :
    Met l Z (⟨"com/example/weaverbird/weaverbird/paraphrases/SourceRows", "gatherByPhrase", "([I)V"⟩ : MethodName) prog_106_method_8_code 6 none ({ frames := 0, cells := 0, slots := 0, locals := 0 } : Room) n0 #[(.ref a), (.ref rw)] h0 (fun v h => v = none ∧ ∃ (s a0 a1 a2 A0 A1 A2 B0 B1 B2 : Int32) (f' : Nat → Int32), Sr Z h n0 a ph sg tg rw ep es et s ((.int a0) :: (.int a1) :: (.int a2) :: pt) ((.double (FP.i2d A0)) :: (.double (FP.i2d A1)) :: (.double (FP.i2d A2)) :: st) ((.double (FP.i2d B0)) :: (.double (FP.i2d B1)) :: (.double (FP.i2d B2)) :: tt) f' el fl gl ∧ (∀ i, f' i = -1) ∧ Pat m0 m1 m2 q0 q1 q2 u0 u1 u2 v0 v1 v2 s a0 a1 a2 A0 A1 A2 B0 B1 B2) := by
  refine Met.of (Ls := #[.val (.ref a), .val (.ref rw), .unset, .unset, .unset, .unset]) (plainFor_of_name pn_0) (fun m => by first | (simp [entryFrame, mkF, argsToLocals, Value.category, maxLocals]; done) | rfl) (fun κ w => ?_)
  replace w : Wk κ l Z "com/example/weaverbird/weaverbird/paraphrases/SourceRows" "gatherByPhrase" prog_106_method_8_code 6 none ({ frames := 0, cells := 0, slots := 0, locals := 0 } : Room) n0 h0 0 0 0 #[.val (.ref a), .val (.ref rw), .unset, .unset, .unset, .unset] [] := w
  replace w := w.iconst (q := 1) (z := (0 : Int32)) dp106m8_0 (by decide) rfl
  replace w := w.istoreN (q := 2) (l' := #[.val (.ref a), .val (.ref rw), .val (.int (0 : Int32)), .unset, .unset, .unset]) dp106m8_1 rfl rfl
  replace w := w.iconst (q := 3) (z := (0 : Int32)) dp106m8_2 (by decide) rfl
  replace w := w.istoreN (q := 4) (l' := #[.val (.ref a), .val (.ref rw), .val (.int (0 : Int32)), .val (.int (0 : Int32)), .unset, .unset]) dp106m8_3 rfl rfl
  replace w := w.iloadN (q := 5) (v := (0 : Int32)) dp106m8_4 rfl rfl
  replace w := w.aloadN (q := 6) (v := (.ref a)) dp106m8_5 rfl rfl rfl
  replace w := w.getF (q := 9) (v := (.int (3 : Int32))) (hw _ (List.mem_of_getElem? (i := 23) rfl)) (S.1.2.2.2.2) dp106m8_6 rfl
  obtain ⟨-, w⟩ := (w.icmpGe (q := 112) (q' := 12) (xi := 0) (yi := 3) dp106m8_9 rfl rfl (by decide) (by decide) rfl).resolve_left (fun g => by have hc9 := g.1; revert hc9; decide)
  replace w := w.aloadN (q := 13) (v := (.ref a)) dp106m8_12 rfl rfl rfl
  replace w := w.getF (q := 16) (v := (.ref ph)) (hw _ (List.mem_of_getElem? (i := 11) rfl)) (S.1.2.1) dp106m8_13 rfl
  replace w := w.iloadN (q := 17) (v := (0 : Int32)) dp106m8_16 rfl rfl
  replace w := w.ldIl (q := 18) (v := (.int q0)) (S.2.1) 0 rfl rfl dp106m8_17 rfl
  replace w := w.istore (q := 20) (l' := #[.val (.ref a), .val (.ref rw), .val (.int (0 : Int32)), .val (.int (0 : Int32)), .val (.int q0), .unset]) dp106m8_18 rfl rfl
  replace w := w.aloadN (q := 21) (v := (.ref rw)) dp106m8_20 rfl rfl rfl
  replace w := w.iload (q := 23) (v := q0) dp106m8_21 rfl rfl
  replace w := ldF (q := 24) (x := -1) w (S.2.2.2.2.1) m0 hm0 bm0 (by rw [hf]) dp106m8_23 rfl
  replace w := w.istore (q := 26) (l' := #[.val (.ref a), .val (.ref rw), .val (.int (0 : Int32)), .val (.int (0 : Int32)), .val (.int q0), .val (.int (-1 : Int32))]) dp106m8_24 rfl rfl
  replace w := w.iload (q := 28) (v := (-1 : Int32)) dp106m8_26 rfl rfl
  obtain ⟨-, w⟩ := (w.ifGe (q := 74) (q' := 31) (xi := - 1) dp106m8_28 rfl (by decide) (by decide) rfl).resolve_left (fun g => by have hc28 := g.1; revert hc28; decide)
  replace w := w.aloadN (q := 32) (v := (.ref rw)) dp106m8_31 rfl rfl rfl
  replace w := w.iload (q := 34) (v := q0) dp106m8_32 rfl rfl
  replace w := w.iloadN (q := 35) (v := (0 : Int32)) dp106m8_34 rfl rfl
  obtain ⟨h18, W19, w⟩ := stF (q := 36) w (S.2.2.2.2.1) m0 hm0 bm0 (S.ge.2.2.2.2.1) dp106m8_35 rfl
  replace S := S.setRw W19
  obtain ⟨f20, uf20⟩ : ∃ g : Nat → Int32, g = fun i => if i = m0 then (0 : Int32) else f i := ⟨_, rfl⟩
  rw [← uf20] at S
  replace uf20 : ∀ i, f20 i = if i = m0 then (0 : Int32) else f i := fun i => by rw [uf20]
  replace w := w.aloadN (q := 37) (v := (.ref a)) dp106m8_36 rfl rfl rfl
  replace w := w.getF (q := 40) (v := (.ref ph)) (hw _ (List.mem_of_getElem? (i := 11) rfl)) (S.1.2.1) dp106m8_37 rfl
  replace w := w.iloadN (q := 41) (v := (0 : Int32)) dp106m8_40 rfl rfl
  replace w := w.iload (q := 43) (v := q0) dp106m8_41 rfl rfl
  obtain ⟨h21, W22, w⟩ := w.stIl (q := 44) (S.2.1) 0 rfl (by simp only [List.length_cons]; omega) (S.ge.2.1) dp106m8_43 rfl
  replace S := S.setPh W22
  replace S : Sr Z h21 n0 a ph sg tg rw ep es et (3 : Int32) ((.int q0) :: (.int q1) :: (.int q2) :: pt) ((.double (FP.i2d u0)) :: (.double (FP.i2d u1)) :: (.double (FP.i2d u2)) :: st) ((.double (FP.i2d v0)) :: (.double (FP.i2d v1)) :: (.double (FP.i2d v2)) :: tt) f20 el fl gl := S
  replace w := w.aloadN (q := 45) (v := (.ref a)) dp106m8_44 rfl rfl rfl
  replace w := w.getF (q := 48) (v := (.ref sg)) (hw _ (List.mem_of_getElem? (i := 14) rfl)) (S.1.2.2.1) dp106m8_45 rfl
  replace w := w.iloadN (q := 49) (v := (0 : Int32)) dp106m8_48 rfl rfl
  replace w := w.aloadN (q := 50) (v := (.ref a)) dp106m8_49 rfl rfl rfl
  replace w := w.getF (q := 53) (v := (.ref sg)) (hw _ (List.mem_of_getElem? (i := 14) rfl)) (S.1.2.2.1) dp106m8_50 rfl
  replace w := w.iloadN (q := 54) (v := (0 : Int32)) dp106m8_53 rfl rfl
  replace w := w.ldDl (q := 55) (v := (.double (FP.i2d u0))) (S.2.2.1) 0 rfl rfl dp106m8_54 rfl
  obtain ⟨h23, W24, w⟩ := w.stDl (q := 56) (S.2.2.1) 0 rfl (by simp only [List.length_cons]; omega) (S.ge.2.2.1) dp106m8_55 rfl
  replace S := S.setSg W24
  replace S : Sr Z h23 n0 a ph sg tg rw ep es et (3 : Int32) ((.int q0) :: (.int q1) :: (.int q2) :: pt) ((.double (FP.i2d u0)) :: (.double (FP.i2d u1)) :: (.double (FP.i2d u2)) :: st) ((.double (FP.i2d v0)) :: (.double (FP.i2d v1)) :: (.double (FP.i2d v2)) :: tt) f20 el fl gl := S
  replace w := w.aloadN (q := 57) (v := (.ref a)) dp106m8_56 rfl rfl rfl
  replace w := w.getF (q := 60) (v := (.ref tg)) (hw _ (List.mem_of_getElem? (i := 16) rfl)) (S.1.2.2.2.1) dp106m8_57 rfl
  replace w := w.iloadN (q := 61) (v := (0 : Int32)) dp106m8_60 rfl rfl
  replace w := w.aloadN (q := 62) (v := (.ref a)) dp106m8_61 rfl rfl rfl
  replace w := w.getF (q := 65) (v := (.ref tg)) (hw _ (List.mem_of_getElem? (i := 16) rfl)) (S.1.2.2.2.1) dp106m8_62 rfl
  replace w := w.iloadN (q := 66) (v := (0 : Int32)) dp106m8_65 rfl rfl
  replace w := w.ldDl (q := 67) (v := (.double (FP.i2d v0))) (S.2.2.2.1) 0 rfl rfl dp106m8_66 rfl
  obtain ⟨h25, W26, w⟩ := w.stDl (q := 68) (S.2.2.2.1) 0 rfl (by simp only [List.length_cons]; omega) (S.ge.2.2.2.1) dp106m8_67 rfl
  replace S := S.setTg W26
  replace S : Sr Z h25 n0 a ph sg tg rw ep es et (3 : Int32) ((.int q0) :: (.int q1) :: (.int q2) :: pt) ((.double (FP.i2d u0)) :: (.double (FP.i2d u1)) :: (.double (FP.i2d u2)) :: st) ((.double (FP.i2d v0)) :: (.double (FP.i2d v1)) :: (.double (FP.i2d v2)) :: tt) f20 el fl gl := S
  replace w := w.iinc (q := 71) (z := (1 : Int32)) (l' := #[.val (.ref a), .val (.ref rw), .val (.int (1 : Int32)), .val (.int (0 : Int32)), .val (.int q0), .val (.int (-1 : Int32))]) dp106m8_68 rfl (by decide) rfl rfl
  replace w := w.goto (q := 106) dp106m8_71 (by decide) (by decide)
  replace w := w.iinc (q := 109) (z := (1 : Int32)) (l' := #[.val (.ref a), .val (.ref rw), .val (.int (1 : Int32)), .val (.int (1 : Int32)), .val (.int q0), .val (.int (-1 : Int32))]) dp106m8_106 rfl (by decide) rfl rfl
  replace w := w.goto (q := 4) dp106m8_109 (by decide) (by decide)
  replace w := w.iloadN (q := 5) (v := (1 : Int32)) dp106m8_4 rfl rfl
  replace w := w.aloadN (q := 6) (v := (.ref a)) dp106m8_5 rfl rfl rfl
  replace w := w.getF (q := 9) (v := (.int (3 : Int32))) (hw _ (List.mem_of_getElem? (i := 23) rfl)) (S.1.2.2.2.2) dp106m8_6 rfl
  obtain ⟨-, w⟩ := (w.icmpGe (q := 112) (q' := 12) (xi := 1) (yi := 3) dp106m8_9 rfl rfl (by decide) (by decide) rfl).resolve_left (fun g => by have hc9 := g.1; revert hc9; decide)
  replace w := w.aloadN (q := 13) (v := (.ref a)) dp106m8_12 rfl rfl rfl
  replace w := w.getF (q := 16) (v := (.ref ph)) (hw _ (List.mem_of_getElem? (i := 11) rfl)) (S.1.2.1) dp106m8_13 rfl
  replace w := w.iloadN (q := 17) (v := (1 : Int32)) dp106m8_16 rfl rfl
  replace w := w.ldIl (q := 18) (v := (.int q1)) (S.2.1) 1 rfl rfl dp106m8_17 rfl
  replace w := w.istore (q := 20) (l' := #[.val (.ref a), .val (.ref rw), .val (.int (1 : Int32)), .val (.int (1 : Int32)), .val (.int q1), .val (.int (-1 : Int32))]) dp106m8_18 rfl rfl
  replace w := w.aloadN (q := 21) (v := (.ref rw)) dp106m8_20 rfl rfl rfl
  replace w := w.iload (q := 23) (v := q1) dp106m8_21 rfl rfl
  by_cases hq1_m0 : m1 = m0
  · replace w := ldF (q := 24) (x := 0) w (S.2.2.2.2.1) m1 hm1 bm1 (by rw [uf20, if_pos (by omega)]) dp106m8_23 rfl
    replace w := w.istore (q := 26) (l' := #[.val (.ref a), .val (.ref rw), .val (.int (1 : Int32)), .val (.int (1 : Int32)), .val (.int q1), .val (.int (0 : Int32))]) dp106m8_24 rfl rfl
    replace w := w.iload (q := 28) (v := (0 : Int32)) dp106m8_26 rfl rfl
    obtain ⟨-, w⟩ := (w.ifGe (q := 74) (q' := 31) (xi := 0) dp106m8_28 rfl (by decide) (by decide) rfl).resolve_right (fun g => by have hc28 := g.1; revert hc28; decide)
    replace w := w.aloadN (q := 75) (v := (.ref a)) dp106m8_74 rfl rfl rfl
    replace w := w.getF (q := 78) (v := (.ref sg)) (hw _ (List.mem_of_getElem? (i := 14) rfl)) (S.1.2.2.1) dp106m8_75 rfl
    replace w := w.iload (q := 80) (v := (0 : Int32)) dp106m8_78 rfl rfl
    replace w := w.dup2 (q := 81) dp106m8_80 rfl rfl rfl
    replace w := w.ldDl (q := 82) (v := (.double (FP.i2d u0))) (S.2.2.1) 0 rfl rfl dp106m8_81 rfl
    replace w := w.aloadN (q := 83) (v := (.ref a)) dp106m8_82 rfl rfl rfl
    replace w := w.getF (q := 86) (v := (.ref sg)) (hw _ (List.mem_of_getElem? (i := 14) rfl)) (S.1.2.2.1) dp106m8_83 rfl
    replace w := w.iloadN (q := 87) (v := (1 : Int32)) dp106m8_86 rfl rfl
    replace w := w.ldDl (q := 88) (v := (.double (FP.i2d u1))) (S.2.2.1) 1 rfl rfl dp106m8_87 rfl
    obtain ⟨s27, hs27⟩ : ∃ z : Int32, u0 + u1 = z := ⟨_, rfl⟩
    have fs27 := own_add hs27 (by omega) (by omega) (by omega) (by omega)
    have gs27 := own_dadd hs27 (by omega) (by omega) (by omega) (by omega)
    replace w := w.dadd (q := 89) dp106m8_88 (by rw [gs27]; exact own_nn _) gs27 rfl
    obtain ⟨h28, W29, w⟩ := w.stDl (q := 90) (S.2.2.1) 0 rfl (by simp only [List.length_cons]; omega) (S.ge.2.2.1) dp106m8_89 rfl
    replace S := S.setSg W29
    replace S : Sr Z h28 n0 a ph sg tg rw ep es et (3 : Int32) ((.int q0) :: (.int q1) :: (.int q2) :: pt) ((.double (FP.i2d s27)) :: (.double (FP.i2d u1)) :: (.double (FP.i2d u2)) :: st) ((.double (FP.i2d v0)) :: (.double (FP.i2d v1)) :: (.double (FP.i2d v2)) :: tt) f20 el fl gl := S
    replace w := w.aloadN (q := 91) (v := (.ref a)) dp106m8_90 rfl rfl rfl
    replace w := w.getF (q := 94) (v := (.ref tg)) (hw _ (List.mem_of_getElem? (i := 16) rfl)) (S.1.2.2.2.1) dp106m8_91 rfl
    replace w := w.iload (q := 96) (v := (0 : Int32)) dp106m8_94 rfl rfl
    replace w := w.dup2 (q := 97) dp106m8_96 rfl rfl rfl
    replace w := w.ldDl (q := 98) (v := (.double (FP.i2d v0))) (S.2.2.2.1) 0 rfl rfl dp106m8_97 rfl
    replace w := w.aloadN (q := 99) (v := (.ref a)) dp106m8_98 rfl rfl rfl
    replace w := w.getF (q := 102) (v := (.ref tg)) (hw _ (List.mem_of_getElem? (i := 16) rfl)) (S.1.2.2.2.1) dp106m8_99 rfl
    replace w := w.iloadN (q := 103) (v := (1 : Int32)) dp106m8_102 rfl rfl
    replace w := w.ldDl (q := 104) (v := (.double (FP.i2d v1))) (S.2.2.2.1) 1 rfl rfl dp106m8_103 rfl
    obtain ⟨s30, hs30⟩ : ∃ z : Int32, v0 + v1 = z := ⟨_, rfl⟩
    have fs30 := own_add hs30 (by omega) (by omega) (by omega) (by omega)
    have gs30 := own_dadd hs30 (by omega) (by omega) (by omega) (by omega)
    replace w := w.dadd (q := 105) dp106m8_104 (by rw [gs30]; exact own_nn _) gs30 rfl
    obtain ⟨h31, W32, w⟩ := w.stDl (q := 106) (S.2.2.2.1) 0 rfl (by simp only [List.length_cons]; omega) (S.ge.2.2.2.1) dp106m8_105 rfl
    replace S := S.setTg W32
    replace S : Sr Z h31 n0 a ph sg tg rw ep es et (3 : Int32) ((.int q0) :: (.int q1) :: (.int q2) :: pt) ((.double (FP.i2d s27)) :: (.double (FP.i2d u1)) :: (.double (FP.i2d u2)) :: st) ((.double (FP.i2d s30)) :: (.double (FP.i2d v1)) :: (.double (FP.i2d v2)) :: tt) f20 el fl gl := S
    replace w := w.iinc (q := 109) (z := (2 : Int32)) (l' := #[.val (.ref a), .val (.ref rw), .val (.int (1 : Int32)), .val (.int (2 : Int32)), .val (.int q1), .val (.int (0 : Int32))]) dp106m8_106 rfl (by decide) rfl rfl
    replace w := w.goto (q := 4) dp106m8_109 (by decide) (by decide)
    replace w := w.iloadN (q := 5) (v := (2 : Int32)) dp106m8_4 rfl rfl
    replace w := w.aloadN (q := 6) (v := (.ref a)) dp106m8_5 rfl rfl rfl
    replace w := w.getF (q := 9) (v := (.int (3 : Int32))) (hw _ (List.mem_of_getElem? (i := 23) rfl)) (S.1.2.2.2.2) dp106m8_6 rfl
    obtain ⟨-, w⟩ := (w.icmpGe (q := 112) (q' := 12) (xi := 2) (yi := 3) dp106m8_9 rfl rfl (by decide) (by decide) rfl).resolve_left (fun g => by have hc9 := g.1; revert hc9; decide)
    replace w := w.aloadN (q := 13) (v := (.ref a)) dp106m8_12 rfl rfl rfl
    replace w := w.getF (q := 16) (v := (.ref ph)) (hw _ (List.mem_of_getElem? (i := 11) rfl)) (S.1.2.1) dp106m8_13 rfl
    replace w := w.iloadN (q := 17) (v := (2 : Int32)) dp106m8_16 rfl rfl
    replace w := w.ldIl (q := 18) (v := (.int q2)) (S.2.1) 2 rfl rfl dp106m8_17 rfl
    replace w := w.istore (q := 20) (l' := #[.val (.ref a), .val (.ref rw), .val (.int (1 : Int32)), .val (.int (2 : Int32)), .val (.int q2), .val (.int (0 : Int32))]) dp106m8_18 rfl rfl
    replace w := w.aloadN (q := 21) (v := (.ref rw)) dp106m8_20 rfl rfl rfl
    replace w := w.iload (q := 23) (v := q2) dp106m8_21 rfl rfl
    by_cases hq2_m0 : m2 = m0
    · replace w := ldF (q := 24) (x := 0) w (S.2.2.2.2.1) m2 hm2 bm2 (by rw [uf20, if_pos (by omega)]) dp106m8_23 rfl
      replace w := w.istore (q := 26) (l' := #[.val (.ref a), .val (.ref rw), .val (.int (1 : Int32)), .val (.int (2 : Int32)), .val (.int q2), .val (.int (0 : Int32))]) dp106m8_24 rfl rfl
      replace w := w.iload (q := 28) (v := (0 : Int32)) dp106m8_26 rfl rfl
      obtain ⟨-, w⟩ := (w.ifGe (q := 74) (q' := 31) (xi := 0) dp106m8_28 rfl (by decide) (by decide) rfl).resolve_right (fun g => by have hc28 := g.1; revert hc28; decide)
      replace w := w.aloadN (q := 75) (v := (.ref a)) dp106m8_74 rfl rfl rfl
      replace w := w.getF (q := 78) (v := (.ref sg)) (hw _ (List.mem_of_getElem? (i := 14) rfl)) (S.1.2.2.1) dp106m8_75 rfl
      replace w := w.iload (q := 80) (v := (0 : Int32)) dp106m8_78 rfl rfl
      replace w := w.dup2 (q := 81) dp106m8_80 rfl rfl rfl
      replace w := w.ldDl (q := 82) (v := (.double (FP.i2d s27))) (S.2.2.1) 0 rfl rfl dp106m8_81 rfl
      replace w := w.aloadN (q := 83) (v := (.ref a)) dp106m8_82 rfl rfl rfl
      replace w := w.getF (q := 86) (v := (.ref sg)) (hw _ (List.mem_of_getElem? (i := 14) rfl)) (S.1.2.2.1) dp106m8_83 rfl
      replace w := w.iloadN (q := 87) (v := (2 : Int32)) dp106m8_86 rfl rfl
      replace w := w.ldDl (q := 88) (v := (.double (FP.i2d u2))) (S.2.2.1) 2 rfl rfl dp106m8_87 rfl
      obtain ⟨s33, hs33⟩ : ∃ z : Int32, s27 + u2 = z := ⟨_, rfl⟩
      have fs33 := own_add hs33 (by omega) (by omega) (by omega) (by omega)
      have gs33 := own_dadd hs33 (by omega) (by omega) (by omega) (by omega)
      replace w := w.dadd (q := 89) dp106m8_88 (by rw [gs33]; exact own_nn _) gs33 rfl
      obtain ⟨h34, W35, w⟩ := w.stDl (q := 90) (S.2.2.1) 0 rfl (by simp only [List.length_cons]; omega) (S.ge.2.2.1) dp106m8_89 rfl
      replace S := S.setSg W35
      replace S : Sr Z h34 n0 a ph sg tg rw ep es et (3 : Int32) ((.int q0) :: (.int q1) :: (.int q2) :: pt) ((.double (FP.i2d s33)) :: (.double (FP.i2d u1)) :: (.double (FP.i2d u2)) :: st) ((.double (FP.i2d s30)) :: (.double (FP.i2d v1)) :: (.double (FP.i2d v2)) :: tt) f20 el fl gl := S
      replace w := w.aloadN (q := 91) (v := (.ref a)) dp106m8_90 rfl rfl rfl
      replace w := w.getF (q := 94) (v := (.ref tg)) (hw _ (List.mem_of_getElem? (i := 16) rfl)) (S.1.2.2.2.1) dp106m8_91 rfl
      replace w := w.iload (q := 96) (v := (0 : Int32)) dp106m8_94 rfl rfl
      replace w := w.dup2 (q := 97) dp106m8_96 rfl rfl rfl
      replace w := w.ldDl (q := 98) (v := (.double (FP.i2d s30))) (S.2.2.2.1) 0 rfl rfl dp106m8_97 rfl
      replace w := w.aloadN (q := 99) (v := (.ref a)) dp106m8_98 rfl rfl rfl
      replace w := w.getF (q := 102) (v := (.ref tg)) (hw _ (List.mem_of_getElem? (i := 16) rfl)) (S.1.2.2.2.1) dp106m8_99 rfl
      replace w := w.iloadN (q := 103) (v := (2 : Int32)) dp106m8_102 rfl rfl
      replace w := w.ldDl (q := 104) (v := (.double (FP.i2d v2))) (S.2.2.2.1) 2 rfl rfl dp106m8_103 rfl
      obtain ⟨s36, hs36⟩ : ∃ z : Int32, s30 + v2 = z := ⟨_, rfl⟩
      have fs36 := own_add hs36 (by omega) (by omega) (by omega) (by omega)
      have gs36 := own_dadd hs36 (by omega) (by omega) (by omega) (by omega)
      replace w := w.dadd (q := 105) dp106m8_104 (by rw [gs36]; exact own_nn _) gs36 rfl
      obtain ⟨h37, W38, w⟩ := w.stDl (q := 106) (S.2.2.2.1) 0 rfl (by simp only [List.length_cons]; omega) (S.ge.2.2.2.1) dp106m8_105 rfl
      replace S := S.setTg W38
      replace S : Sr Z h37 n0 a ph sg tg rw ep es et (3 : Int32) ((.int q0) :: (.int q1) :: (.int q2) :: pt) ((.double (FP.i2d s33)) :: (.double (FP.i2d u1)) :: (.double (FP.i2d u2)) :: st) ((.double (FP.i2d s36)) :: (.double (FP.i2d v1)) :: (.double (FP.i2d v2)) :: tt) f20 el fl gl := S
      replace w := w.iinc (q := 109) (z := (3 : Int32)) (l' := #[.val (.ref a), .val (.ref rw), .val (.int (1 : Int32)), .val (.int (3 : Int32)), .val (.int q2), .val (.int (0 : Int32))]) dp106m8_106 rfl (by decide) rfl rfl
      replace w := w.goto (q := 4) dp106m8_109 (by decide) (by decide)
      replace w := w.iloadN (q := 5) (v := (3 : Int32)) dp106m8_4 rfl rfl
      replace w := w.aloadN (q := 6) (v := (.ref a)) dp106m8_5 rfl rfl rfl
      replace w := w.getF (q := 9) (v := (.int (3 : Int32))) (hw _ (List.mem_of_getElem? (i := 23) rfl)) (S.1.2.2.2.2) dp106m8_6 rfl
      obtain ⟨-, w⟩ := (w.icmpGe (q := 112) (q' := 12) (xi := 3) (yi := 3) dp106m8_9 rfl rfl (by decide) (by decide) rfl).resolve_right (fun g => by have hc9 := g.1; revert hc9; decide)
      replace w := w.iconst (q := 113) (z := (0 : Int32)) dp106m8_112 (by decide) rfl
      replace w := w.istoreN (q := 114) (l' := #[.val (.ref a), .val (.ref rw), .val (.int (1 : Int32)), .val (.int (0 : Int32)), .val (.int q2), .val (.int (0 : Int32))]) dp106m8_113 rfl rfl
      replace w := w.iloadN (q := 115) (v := (0 : Int32)) dp106m8_114 rfl rfl
      replace w := w.iloadN (q := 116) (v := (1 : Int32)) dp106m8_115 rfl rfl
      obtain ⟨-, w⟩ := (w.icmpGe (q := 134) (q' := 119) (xi := 0) (yi := 1) dp106m8_116 rfl rfl (by decide) (by decide) rfl).resolve_left (fun g => by have hc116 := g.1; revert hc116; decide)
      replace w := w.aloadN (q := 120) (v := (.ref rw)) dp106m8_119 rfl rfl rfl
      replace w := w.aloadN (q := 121) (v := (.ref a)) dp106m8_120 rfl rfl rfl
      replace w := w.getF (q := 124) (v := (.ref ph)) (hw _ (List.mem_of_getElem? (i := 11) rfl)) (S.1.2.1) dp106m8_121 rfl
      replace w := w.iloadN (q := 125) (v := (0 : Int32)) dp106m8_124 rfl rfl
      replace w := w.ldIl (q := 126) (v := (.int q0)) (S.2.1) 0 rfl rfl dp106m8_125 rfl
      replace w := w.iconst (q := 127) (z := (-1 : Int32)) dp106m8_126 (by decide) rfl
      obtain ⟨h39, W40, w⟩ := stF (q := 128) w (S.2.2.2.2.1) m0 hm0 bm0 (S.ge.2.2.2.2.1) dp106m8_127 rfl
      replace S := S.setRw W40
      obtain ⟨f41, uf41⟩ : ∃ g : Nat → Int32, g = fun i => if i = m0 then (-1 : Int32) else f20 i := ⟨_, rfl⟩
      rw [← uf41] at S
      replace uf41 : ∀ i, f41 i = if i = m0 then (-1 : Int32) else f20 i := fun i => by rw [uf41]
      replace w := w.iinc (q := 131) (z := (1 : Int32)) (l' := #[.val (.ref a), .val (.ref rw), .val (.int (1 : Int32)), .val (.int (1 : Int32)), .val (.int q2), .val (.int (0 : Int32))]) dp106m8_128 rfl (by decide) rfl rfl
      replace w := w.goto (q := 114) dp106m8_131 (by decide) (by decide)
      replace w := w.iloadN (q := 115) (v := (1 : Int32)) dp106m8_114 rfl rfl
      replace w := w.iloadN (q := 116) (v := (1 : Int32)) dp106m8_115 rfl rfl
      obtain ⟨-, w⟩ := (w.icmpGe (q := 134) (q' := 119) (xi := 1) (yi := 1) dp106m8_116 rfl rfl (by decide) (by decide) rfl).resolve_right (fun g => by have hc116 := g.1; revert hc116; decide)
      replace w := w.aloadN (q := 135) (v := (.ref a)) dp106m8_134 rfl rfl rfl
      replace w := w.iloadN (q := 136) (v := (1 : Int32)) dp106m8_135 rfl rfl
      obtain ⟨h42, W43, w⟩ := w.putF (q := 139) (C := "com/example/weaverbird/weaverbird/paraphrases/SourceRows") (hw _ (List.mem_of_getElem? (i := 23) rfl)) (S.1.2.2.2.2) (S.1.1) (Or.inl (hw _ (List.mem_of_getElem? (i := 24) rfl))) (hw _ (List.mem_of_getElem? (i := 3) rfl)) (ty := .int) (by decide) rfl rfl dp106m8_136 (S.ge.1) rfl
      replace S := S.put_size hw W43
      refine w.retV dp106m8_139 ⟨rfl, (1 : Int32), q0, q1, q2, s33, u1, u2, s36, v1, v2, f41, S, fun i => ?_, ?_⟩ (by decide) (by decide)
      · rw [uf41, uf20, hf]
        repeat (first | rfl | split | (exfalso; omega))
      · have ez : (1 : Int32).toInt = 1 := rfl
        unfold Pat; omega
    · replace w := ldF (q := 24) (x := -1) w (S.2.2.2.2.1) m2 hm2 bm2 (by rw [uf20, if_neg (by omega), hf]) dp106m8_23 rfl
      replace w := w.istore (q := 26) (l' := #[.val (.ref a), .val (.ref rw), .val (.int (1 : Int32)), .val (.int (2 : Int32)), .val (.int q2), .val (.int (-1 : Int32))]) dp106m8_24 rfl rfl
      replace w := w.iload (q := 28) (v := (-1 : Int32)) dp106m8_26 rfl rfl
      obtain ⟨-, w⟩ := (w.ifGe (q := 74) (q' := 31) (xi := - 1) dp106m8_28 rfl (by decide) (by decide) rfl).resolve_left (fun g => by have hc28 := g.1; revert hc28; decide)
      replace w := w.aloadN (q := 32) (v := (.ref rw)) dp106m8_31 rfl rfl rfl
      replace w := w.iload (q := 34) (v := q2) dp106m8_32 rfl rfl
      replace w := w.iloadN (q := 35) (v := (1 : Int32)) dp106m8_34 rfl rfl
      obtain ⟨h44, W45, w⟩ := stF (q := 36) w (S.2.2.2.2.1) m2 hm2 bm2 (S.ge.2.2.2.2.1) dp106m8_35 rfl
      replace S := S.setRw W45
      obtain ⟨f46, uf46⟩ : ∃ g : Nat → Int32, g = fun i => if i = m2 then (1 : Int32) else f20 i := ⟨_, rfl⟩
      rw [← uf46] at S
      replace uf46 : ∀ i, f46 i = if i = m2 then (1 : Int32) else f20 i := fun i => by rw [uf46]
      replace w := w.aloadN (q := 37) (v := (.ref a)) dp106m8_36 rfl rfl rfl
      replace w := w.getF (q := 40) (v := (.ref ph)) (hw _ (List.mem_of_getElem? (i := 11) rfl)) (S.1.2.1) dp106m8_37 rfl
      replace w := w.iloadN (q := 41) (v := (1 : Int32)) dp106m8_40 rfl rfl
      replace w := w.iload (q := 43) (v := q2) dp106m8_41 rfl rfl
      obtain ⟨h47, W48, w⟩ := w.stIl (q := 44) (S.2.1) 1 rfl (by simp only [List.length_cons]; omega) (S.ge.2.1) dp106m8_43 rfl
      replace S := S.setPh W48
      replace S : Sr Z h47 n0 a ph sg tg rw ep es et (3 : Int32) ((.int q0) :: (.int q2) :: (.int q2) :: pt) ((.double (FP.i2d s27)) :: (.double (FP.i2d u1)) :: (.double (FP.i2d u2)) :: st) ((.double (FP.i2d s30)) :: (.double (FP.i2d v1)) :: (.double (FP.i2d v2)) :: tt) f46 el fl gl := S
      replace w := w.aloadN (q := 45) (v := (.ref a)) dp106m8_44 rfl rfl rfl
      replace w := w.getF (q := 48) (v := (.ref sg)) (hw _ (List.mem_of_getElem? (i := 14) rfl)) (S.1.2.2.1) dp106m8_45 rfl
      replace w := w.iloadN (q := 49) (v := (1 : Int32)) dp106m8_48 rfl rfl
      replace w := w.aloadN (q := 50) (v := (.ref a)) dp106m8_49 rfl rfl rfl
      replace w := w.getF (q := 53) (v := (.ref sg)) (hw _ (List.mem_of_getElem? (i := 14) rfl)) (S.1.2.2.1) dp106m8_50 rfl
      replace w := w.iloadN (q := 54) (v := (2 : Int32)) dp106m8_53 rfl rfl
      replace w := w.ldDl (q := 55) (v := (.double (FP.i2d u2))) (S.2.2.1) 2 rfl rfl dp106m8_54 rfl
      obtain ⟨h49, W50, w⟩ := w.stDl (q := 56) (S.2.2.1) 1 rfl (by simp only [List.length_cons]; omega) (S.ge.2.2.1) dp106m8_55 rfl
      replace S := S.setSg W50
      replace S : Sr Z h49 n0 a ph sg tg rw ep es et (3 : Int32) ((.int q0) :: (.int q2) :: (.int q2) :: pt) ((.double (FP.i2d s27)) :: (.double (FP.i2d u2)) :: (.double (FP.i2d u2)) :: st) ((.double (FP.i2d s30)) :: (.double (FP.i2d v1)) :: (.double (FP.i2d v2)) :: tt) f46 el fl gl := S
      replace w := w.aloadN (q := 57) (v := (.ref a)) dp106m8_56 rfl rfl rfl
      replace w := w.getF (q := 60) (v := (.ref tg)) (hw _ (List.mem_of_getElem? (i := 16) rfl)) (S.1.2.2.2.1) dp106m8_57 rfl
      replace w := w.iloadN (q := 61) (v := (1 : Int32)) dp106m8_60 rfl rfl
      replace w := w.aloadN (q := 62) (v := (.ref a)) dp106m8_61 rfl rfl rfl
      replace w := w.getF (q := 65) (v := (.ref tg)) (hw _ (List.mem_of_getElem? (i := 16) rfl)) (S.1.2.2.2.1) dp106m8_62 rfl
      replace w := w.iloadN (q := 66) (v := (2 : Int32)) dp106m8_65 rfl rfl
      replace w := w.ldDl (q := 67) (v := (.double (FP.i2d v2))) (S.2.2.2.1) 2 rfl rfl dp106m8_66 rfl
      obtain ⟨h51, W52, w⟩ := w.stDl (q := 68) (S.2.2.2.1) 1 rfl (by simp only [List.length_cons]; omega) (S.ge.2.2.2.1) dp106m8_67 rfl
      replace S := S.setTg W52
      replace S : Sr Z h51 n0 a ph sg tg rw ep es et (3 : Int32) ((.int q0) :: (.int q2) :: (.int q2) :: pt) ((.double (FP.i2d s27)) :: (.double (FP.i2d u2)) :: (.double (FP.i2d u2)) :: st) ((.double (FP.i2d s30)) :: (.double (FP.i2d v2)) :: (.double (FP.i2d v2)) :: tt) f46 el fl gl := S
      replace w := w.iinc (q := 71) (z := (2 : Int32)) (l' := #[.val (.ref a), .val (.ref rw), .val (.int (2 : Int32)), .val (.int (2 : Int32)), .val (.int q2), .val (.int (-1 : Int32))]) dp106m8_68 rfl (by decide) rfl rfl
      replace w := w.goto (q := 106) dp106m8_71 (by decide) (by decide)
      replace w := w.iinc (q := 109) (z := (3 : Int32)) (l' := #[.val (.ref a), .val (.ref rw), .val (.int (2 : Int32)), .val (.int (3 : Int32)), .val (.int q2), .val (.int (-1 : Int32))]) dp106m8_106 rfl (by decide) rfl rfl
      replace w := w.goto (q := 4) dp106m8_109 (by decide) (by decide)
      replace w := w.iloadN (q := 5) (v := (3 : Int32)) dp106m8_4 rfl rfl
      replace w := w.aloadN (q := 6) (v := (.ref a)) dp106m8_5 rfl rfl rfl
      replace w := w.getF (q := 9) (v := (.int (3 : Int32))) (hw _ (List.mem_of_getElem? (i := 23) rfl)) (S.1.2.2.2.2) dp106m8_6 rfl
      obtain ⟨-, w⟩ := (w.icmpGe (q := 112) (q' := 12) (xi := 3) (yi := 3) dp106m8_9 rfl rfl (by decide) (by decide) rfl).resolve_right (fun g => by have hc9 := g.1; revert hc9; decide)
      replace w := w.iconst (q := 113) (z := (0 : Int32)) dp106m8_112 (by decide) rfl
      replace w := w.istoreN (q := 114) (l' := #[.val (.ref a), .val (.ref rw), .val (.int (2 : Int32)), .val (.int (0 : Int32)), .val (.int q2), .val (.int (-1 : Int32))]) dp106m8_113 rfl rfl
      replace w := w.iloadN (q := 115) (v := (0 : Int32)) dp106m8_114 rfl rfl
      replace w := w.iloadN (q := 116) (v := (2 : Int32)) dp106m8_115 rfl rfl
      obtain ⟨-, w⟩ := (w.icmpGe (q := 134) (q' := 119) (xi := 0) (yi := 2) dp106m8_116 rfl rfl (by decide) (by decide) rfl).resolve_left (fun g => by have hc116 := g.1; revert hc116; decide)
      replace w := w.aloadN (q := 120) (v := (.ref rw)) dp106m8_119 rfl rfl rfl
      replace w := w.aloadN (q := 121) (v := (.ref a)) dp106m8_120 rfl rfl rfl
      replace w := w.getF (q := 124) (v := (.ref ph)) (hw _ (List.mem_of_getElem? (i := 11) rfl)) (S.1.2.1) dp106m8_121 rfl
      replace w := w.iloadN (q := 125) (v := (0 : Int32)) dp106m8_124 rfl rfl
      replace w := w.ldIl (q := 126) (v := (.int q0)) (S.2.1) 0 rfl rfl dp106m8_125 rfl
      replace w := w.iconst (q := 127) (z := (-1 : Int32)) dp106m8_126 (by decide) rfl
      obtain ⟨h53, W54, w⟩ := stF (q := 128) w (S.2.2.2.2.1) m0 hm0 bm0 (S.ge.2.2.2.2.1) dp106m8_127 rfl
      replace S := S.setRw W54
      obtain ⟨f55, uf55⟩ : ∃ g : Nat → Int32, g = fun i => if i = m0 then (-1 : Int32) else f46 i := ⟨_, rfl⟩
      rw [← uf55] at S
      replace uf55 : ∀ i, f55 i = if i = m0 then (-1 : Int32) else f46 i := fun i => by rw [uf55]
      replace w := w.iinc (q := 131) (z := (1 : Int32)) (l' := #[.val (.ref a), .val (.ref rw), .val (.int (2 : Int32)), .val (.int (1 : Int32)), .val (.int q2), .val (.int (-1 : Int32))]) dp106m8_128 rfl (by decide) rfl rfl
      replace w := w.goto (q := 114) dp106m8_131 (by decide) (by decide)
      replace w := w.iloadN (q := 115) (v := (1 : Int32)) dp106m8_114 rfl rfl
      replace w := w.iloadN (q := 116) (v := (2 : Int32)) dp106m8_115 rfl rfl
      obtain ⟨-, w⟩ := (w.icmpGe (q := 134) (q' := 119) (xi := 1) (yi := 2) dp106m8_116 rfl rfl (by decide) (by decide) rfl).resolve_left (fun g => by have hc116 := g.1; revert hc116; decide)
      replace w := w.aloadN (q := 120) (v := (.ref rw)) dp106m8_119 rfl rfl rfl
      replace w := w.aloadN (q := 121) (v := (.ref a)) dp106m8_120 rfl rfl rfl
      replace w := w.getF (q := 124) (v := (.ref ph)) (hw _ (List.mem_of_getElem? (i := 11) rfl)) (S.1.2.1) dp106m8_121 rfl
      replace w := w.iloadN (q := 125) (v := (1 : Int32)) dp106m8_124 rfl rfl
      replace w := w.ldIl (q := 126) (v := (.int q2)) (S.2.1) 1 rfl rfl dp106m8_125 rfl
      replace w := w.iconst (q := 127) (z := (-1 : Int32)) dp106m8_126 (by decide) rfl
      obtain ⟨h56, W57, w⟩ := stF (q := 128) w (S.2.2.2.2.1) m2 hm2 bm2 (S.ge.2.2.2.2.1) dp106m8_127 rfl
      replace S := S.setRw W57
      obtain ⟨f58, uf58⟩ : ∃ g : Nat → Int32, g = fun i => if i = m2 then (-1 : Int32) else f55 i := ⟨_, rfl⟩
      rw [← uf58] at S
      replace uf58 : ∀ i, f58 i = if i = m2 then (-1 : Int32) else f55 i := fun i => by rw [uf58]
      replace w := w.iinc (q := 131) (z := (2 : Int32)) (l' := #[.val (.ref a), .val (.ref rw), .val (.int (2 : Int32)), .val (.int (2 : Int32)), .val (.int q2), .val (.int (-1 : Int32))]) dp106m8_128 rfl (by decide) rfl rfl
      replace w := w.goto (q := 114) dp106m8_131 (by decide) (by decide)
      replace w := w.iloadN (q := 115) (v := (2 : Int32)) dp106m8_114 rfl rfl
      replace w := w.iloadN (q := 116) (v := (2 : Int32)) dp106m8_115 rfl rfl
      obtain ⟨-, w⟩ := (w.icmpGe (q := 134) (q' := 119) (xi := 2) (yi := 2) dp106m8_116 rfl rfl (by decide) (by decide) rfl).resolve_right (fun g => by have hc116 := g.1; revert hc116; decide)
      replace w := w.aloadN (q := 135) (v := (.ref a)) dp106m8_134 rfl rfl rfl
      replace w := w.iloadN (q := 136) (v := (2 : Int32)) dp106m8_135 rfl rfl
      obtain ⟨h59, W60, w⟩ := w.putF (q := 139) (C := "com/example/weaverbird/weaverbird/paraphrases/SourceRows") (hw _ (List.mem_of_getElem? (i := 23) rfl)) (S.1.2.2.2.2) (S.1.1) (Or.inl (hw _ (List.mem_of_getElem? (i := 24) rfl))) (hw _ (List.mem_of_getElem? (i := 3) rfl)) (ty := .int) (by decide) rfl rfl dp106m8_136 (S.ge.1) rfl
      replace S := S.put_size hw W60
      refine w.retV dp106m8_139 ⟨rfl, (2 : Int32), q0, q2, q2, s27, u2, u2, s30, v2, v2, f58, S, fun i => ?_, ?_⟩ (by decide) (by decide)
      · rw [uf58, uf55, uf46, uf20, hf]
        repeat (first | rfl | split | (exfalso; omega))
      · have ez : (2 : Int32).toInt = 2 := rfl
        unfold Pat; omega
  · replace w := ldF (q := 24) (x := -1) w (S.2.2.2.2.1) m1 hm1 bm1 (by rw [uf20, if_neg (by omega), hf]) dp106m8_23 rfl
    replace w := w.istore (q := 26) (l' := #[.val (.ref a), .val (.ref rw), .val (.int (1 : Int32)), .val (.int (1 : Int32)), .val (.int q1), .val (.int (-1 : Int32))]) dp106m8_24 rfl rfl
    replace w := w.iload (q := 28) (v := (-1 : Int32)) dp106m8_26 rfl rfl
    obtain ⟨-, w⟩ := (w.ifGe (q := 74) (q' := 31) (xi := - 1) dp106m8_28 rfl (by decide) (by decide) rfl).resolve_left (fun g => by have hc28 := g.1; revert hc28; decide)
    replace w := w.aloadN (q := 32) (v := (.ref rw)) dp106m8_31 rfl rfl rfl
    replace w := w.iload (q := 34) (v := q1) dp106m8_32 rfl rfl
    replace w := w.iloadN (q := 35) (v := (1 : Int32)) dp106m8_34 rfl rfl
    obtain ⟨h61, W62, w⟩ := stF (q := 36) w (S.2.2.2.2.1) m1 hm1 bm1 (S.ge.2.2.2.2.1) dp106m8_35 rfl
    replace S := S.setRw W62
    obtain ⟨f63, uf63⟩ : ∃ g : Nat → Int32, g = fun i => if i = m1 then (1 : Int32) else f20 i := ⟨_, rfl⟩
    rw [← uf63] at S
    replace uf63 : ∀ i, f63 i = if i = m1 then (1 : Int32) else f20 i := fun i => by rw [uf63]
    replace w := w.aloadN (q := 37) (v := (.ref a)) dp106m8_36 rfl rfl rfl
    replace w := w.getF (q := 40) (v := (.ref ph)) (hw _ (List.mem_of_getElem? (i := 11) rfl)) (S.1.2.1) dp106m8_37 rfl
    replace w := w.iloadN (q := 41) (v := (1 : Int32)) dp106m8_40 rfl rfl
    replace w := w.iload (q := 43) (v := q1) dp106m8_41 rfl rfl
    obtain ⟨h64, W65, w⟩ := w.stIl (q := 44) (S.2.1) 1 rfl (by simp only [List.length_cons]; omega) (S.ge.2.1) dp106m8_43 rfl
    replace S := S.setPh W65
    replace S : Sr Z h64 n0 a ph sg tg rw ep es et (3 : Int32) ((.int q0) :: (.int q1) :: (.int q2) :: pt) ((.double (FP.i2d u0)) :: (.double (FP.i2d u1)) :: (.double (FP.i2d u2)) :: st) ((.double (FP.i2d v0)) :: (.double (FP.i2d v1)) :: (.double (FP.i2d v2)) :: tt) f63 el fl gl := S
    replace w := w.aloadN (q := 45) (v := (.ref a)) dp106m8_44 rfl rfl rfl
    replace w := w.getF (q := 48) (v := (.ref sg)) (hw _ (List.mem_of_getElem? (i := 14) rfl)) (S.1.2.2.1) dp106m8_45 rfl
    replace w := w.iloadN (q := 49) (v := (1 : Int32)) dp106m8_48 rfl rfl
    replace w := w.aloadN (q := 50) (v := (.ref a)) dp106m8_49 rfl rfl rfl
    replace w := w.getF (q := 53) (v := (.ref sg)) (hw _ (List.mem_of_getElem? (i := 14) rfl)) (S.1.2.2.1) dp106m8_50 rfl
    replace w := w.iloadN (q := 54) (v := (1 : Int32)) dp106m8_53 rfl rfl
    replace w := w.ldDl (q := 55) (v := (.double (FP.i2d u1))) (S.2.2.1) 1 rfl rfl dp106m8_54 rfl
    obtain ⟨h66, W67, w⟩ := w.stDl (q := 56) (S.2.2.1) 1 rfl (by simp only [List.length_cons]; omega) (S.ge.2.2.1) dp106m8_55 rfl
    replace S := S.setSg W67
    replace S : Sr Z h66 n0 a ph sg tg rw ep es et (3 : Int32) ((.int q0) :: (.int q1) :: (.int q2) :: pt) ((.double (FP.i2d u0)) :: (.double (FP.i2d u1)) :: (.double (FP.i2d u2)) :: st) ((.double (FP.i2d v0)) :: (.double (FP.i2d v1)) :: (.double (FP.i2d v2)) :: tt) f63 el fl gl := S
    replace w := w.aloadN (q := 57) (v := (.ref a)) dp106m8_56 rfl rfl rfl
    replace w := w.getF (q := 60) (v := (.ref tg)) (hw _ (List.mem_of_getElem? (i := 16) rfl)) (S.1.2.2.2.1) dp106m8_57 rfl
    replace w := w.iloadN (q := 61) (v := (1 : Int32)) dp106m8_60 rfl rfl
    replace w := w.aloadN (q := 62) (v := (.ref a)) dp106m8_61 rfl rfl rfl
    replace w := w.getF (q := 65) (v := (.ref tg)) (hw _ (List.mem_of_getElem? (i := 16) rfl)) (S.1.2.2.2.1) dp106m8_62 rfl
    replace w := w.iloadN (q := 66) (v := (1 : Int32)) dp106m8_65 rfl rfl
    replace w := w.ldDl (q := 67) (v := (.double (FP.i2d v1))) (S.2.2.2.1) 1 rfl rfl dp106m8_66 rfl
    obtain ⟨h68, W69, w⟩ := w.stDl (q := 68) (S.2.2.2.1) 1 rfl (by simp only [List.length_cons]; omega) (S.ge.2.2.2.1) dp106m8_67 rfl
    replace S := S.setTg W69
    replace S : Sr Z h68 n0 a ph sg tg rw ep es et (3 : Int32) ((.int q0) :: (.int q1) :: (.int q2) :: pt) ((.double (FP.i2d u0)) :: (.double (FP.i2d u1)) :: (.double (FP.i2d u2)) :: st) ((.double (FP.i2d v0)) :: (.double (FP.i2d v1)) :: (.double (FP.i2d v2)) :: tt) f63 el fl gl := S
    replace w := w.iinc (q := 71) (z := (2 : Int32)) (l' := #[.val (.ref a), .val (.ref rw), .val (.int (2 : Int32)), .val (.int (1 : Int32)), .val (.int q1), .val (.int (-1 : Int32))]) dp106m8_68 rfl (by decide) rfl rfl
    replace w := w.goto (q := 106) dp106m8_71 (by decide) (by decide)
    replace w := w.iinc (q := 109) (z := (2 : Int32)) (l' := #[.val (.ref a), .val (.ref rw), .val (.int (2 : Int32)), .val (.int (2 : Int32)), .val (.int q1), .val (.int (-1 : Int32))]) dp106m8_106 rfl (by decide) rfl rfl
    replace w := w.goto (q := 4) dp106m8_109 (by decide) (by decide)
    replace w := w.iloadN (q := 5) (v := (2 : Int32)) dp106m8_4 rfl rfl
    replace w := w.aloadN (q := 6) (v := (.ref a)) dp106m8_5 rfl rfl rfl
    replace w := w.getF (q := 9) (v := (.int (3 : Int32))) (hw _ (List.mem_of_getElem? (i := 23) rfl)) (S.1.2.2.2.2) dp106m8_6 rfl
    obtain ⟨-, w⟩ := (w.icmpGe (q := 112) (q' := 12) (xi := 2) (yi := 3) dp106m8_9 rfl rfl (by decide) (by decide) rfl).resolve_left (fun g => by have hc9 := g.1; revert hc9; decide)
    replace w := w.aloadN (q := 13) (v := (.ref a)) dp106m8_12 rfl rfl rfl
    replace w := w.getF (q := 16) (v := (.ref ph)) (hw _ (List.mem_of_getElem? (i := 11) rfl)) (S.1.2.1) dp106m8_13 rfl
    replace w := w.iloadN (q := 17) (v := (2 : Int32)) dp106m8_16 rfl rfl
    replace w := w.ldIl (q := 18) (v := (.int q2)) (S.2.1) 2 rfl rfl dp106m8_17 rfl
    replace w := w.istore (q := 20) (l' := #[.val (.ref a), .val (.ref rw), .val (.int (2 : Int32)), .val (.int (2 : Int32)), .val (.int q2), .val (.int (-1 : Int32))]) dp106m8_18 rfl rfl
    replace w := w.aloadN (q := 21) (v := (.ref rw)) dp106m8_20 rfl rfl rfl
    replace w := w.iload (q := 23) (v := q2) dp106m8_21 rfl rfl
    by_cases hq2_m0 : m2 = m0
    · replace w := ldF (q := 24) (x := 0) w (S.2.2.2.2.1) m2 hm2 bm2 (by rw [uf63, if_neg (by omega), uf20, if_pos (by omega)]) dp106m8_23 rfl
      replace w := w.istore (q := 26) (l' := #[.val (.ref a), .val (.ref rw), .val (.int (2 : Int32)), .val (.int (2 : Int32)), .val (.int q2), .val (.int (0 : Int32))]) dp106m8_24 rfl rfl
      replace w := w.iload (q := 28) (v := (0 : Int32)) dp106m8_26 rfl rfl
      obtain ⟨-, w⟩ := (w.ifGe (q := 74) (q' := 31) (xi := 0) dp106m8_28 rfl (by decide) (by decide) rfl).resolve_right (fun g => by have hc28 := g.1; revert hc28; decide)
      replace w := w.aloadN (q := 75) (v := (.ref a)) dp106m8_74 rfl rfl rfl
      replace w := w.getF (q := 78) (v := (.ref sg)) (hw _ (List.mem_of_getElem? (i := 14) rfl)) (S.1.2.2.1) dp106m8_75 rfl
      replace w := w.iload (q := 80) (v := (0 : Int32)) dp106m8_78 rfl rfl
      replace w := w.dup2 (q := 81) dp106m8_80 rfl rfl rfl
      replace w := w.ldDl (q := 82) (v := (.double (FP.i2d u0))) (S.2.2.1) 0 rfl rfl dp106m8_81 rfl
      replace w := w.aloadN (q := 83) (v := (.ref a)) dp106m8_82 rfl rfl rfl
      replace w := w.getF (q := 86) (v := (.ref sg)) (hw _ (List.mem_of_getElem? (i := 14) rfl)) (S.1.2.2.1) dp106m8_83 rfl
      replace w := w.iloadN (q := 87) (v := (2 : Int32)) dp106m8_86 rfl rfl
      replace w := w.ldDl (q := 88) (v := (.double (FP.i2d u2))) (S.2.2.1) 2 rfl rfl dp106m8_87 rfl
      obtain ⟨s70, hs70⟩ : ∃ z : Int32, u0 + u2 = z := ⟨_, rfl⟩
      have fs70 := own_add hs70 (by omega) (by omega) (by omega) (by omega)
      have gs70 := own_dadd hs70 (by omega) (by omega) (by omega) (by omega)
      replace w := w.dadd (q := 89) dp106m8_88 (by rw [gs70]; exact own_nn _) gs70 rfl
      obtain ⟨h71, W72, w⟩ := w.stDl (q := 90) (S.2.2.1) 0 rfl (by simp only [List.length_cons]; omega) (S.ge.2.2.1) dp106m8_89 rfl
      replace S := S.setSg W72
      replace S : Sr Z h71 n0 a ph sg tg rw ep es et (3 : Int32) ((.int q0) :: (.int q1) :: (.int q2) :: pt) ((.double (FP.i2d s70)) :: (.double (FP.i2d u1)) :: (.double (FP.i2d u2)) :: st) ((.double (FP.i2d v0)) :: (.double (FP.i2d v1)) :: (.double (FP.i2d v2)) :: tt) f63 el fl gl := S
      replace w := w.aloadN (q := 91) (v := (.ref a)) dp106m8_90 rfl rfl rfl
      replace w := w.getF (q := 94) (v := (.ref tg)) (hw _ (List.mem_of_getElem? (i := 16) rfl)) (S.1.2.2.2.1) dp106m8_91 rfl
      replace w := w.iload (q := 96) (v := (0 : Int32)) dp106m8_94 rfl rfl
      replace w := w.dup2 (q := 97) dp106m8_96 rfl rfl rfl
      replace w := w.ldDl (q := 98) (v := (.double (FP.i2d v0))) (S.2.2.2.1) 0 rfl rfl dp106m8_97 rfl
      replace w := w.aloadN (q := 99) (v := (.ref a)) dp106m8_98 rfl rfl rfl
      replace w := w.getF (q := 102) (v := (.ref tg)) (hw _ (List.mem_of_getElem? (i := 16) rfl)) (S.1.2.2.2.1) dp106m8_99 rfl
      replace w := w.iloadN (q := 103) (v := (2 : Int32)) dp106m8_102 rfl rfl
      replace w := w.ldDl (q := 104) (v := (.double (FP.i2d v2))) (S.2.2.2.1) 2 rfl rfl dp106m8_103 rfl
      obtain ⟨s73, hs73⟩ : ∃ z : Int32, v0 + v2 = z := ⟨_, rfl⟩
      have fs73 := own_add hs73 (by omega) (by omega) (by omega) (by omega)
      have gs73 := own_dadd hs73 (by omega) (by omega) (by omega) (by omega)
      replace w := w.dadd (q := 105) dp106m8_104 (by rw [gs73]; exact own_nn _) gs73 rfl
      obtain ⟨h74, W75, w⟩ := w.stDl (q := 106) (S.2.2.2.1) 0 rfl (by simp only [List.length_cons]; omega) (S.ge.2.2.2.1) dp106m8_105 rfl
      replace S := S.setTg W75
      replace S : Sr Z h74 n0 a ph sg tg rw ep es et (3 : Int32) ((.int q0) :: (.int q1) :: (.int q2) :: pt) ((.double (FP.i2d s70)) :: (.double (FP.i2d u1)) :: (.double (FP.i2d u2)) :: st) ((.double (FP.i2d s73)) :: (.double (FP.i2d v1)) :: (.double (FP.i2d v2)) :: tt) f63 el fl gl := S
      replace w := w.iinc (q := 109) (z := (3 : Int32)) (l' := #[.val (.ref a), .val (.ref rw), .val (.int (2 : Int32)), .val (.int (3 : Int32)), .val (.int q2), .val (.int (0 : Int32))]) dp106m8_106 rfl (by decide) rfl rfl
      replace w := w.goto (q := 4) dp106m8_109 (by decide) (by decide)
      replace w := w.iloadN (q := 5) (v := (3 : Int32)) dp106m8_4 rfl rfl
      replace w := w.aloadN (q := 6) (v := (.ref a)) dp106m8_5 rfl rfl rfl
      replace w := w.getF (q := 9) (v := (.int (3 : Int32))) (hw _ (List.mem_of_getElem? (i := 23) rfl)) (S.1.2.2.2.2) dp106m8_6 rfl
      obtain ⟨-, w⟩ := (w.icmpGe (q := 112) (q' := 12) (xi := 3) (yi := 3) dp106m8_9 rfl rfl (by decide) (by decide) rfl).resolve_right (fun g => by have hc9 := g.1; revert hc9; decide)
      replace w := w.iconst (q := 113) (z := (0 : Int32)) dp106m8_112 (by decide) rfl
      replace w := w.istoreN (q := 114) (l' := #[.val (.ref a), .val (.ref rw), .val (.int (2 : Int32)), .val (.int (0 : Int32)), .val (.int q2), .val (.int (0 : Int32))]) dp106m8_113 rfl rfl
      replace w := w.iloadN (q := 115) (v := (0 : Int32)) dp106m8_114 rfl rfl
      replace w := w.iloadN (q := 116) (v := (2 : Int32)) dp106m8_115 rfl rfl
      obtain ⟨-, w⟩ := (w.icmpGe (q := 134) (q' := 119) (xi := 0) (yi := 2) dp106m8_116 rfl rfl (by decide) (by decide) rfl).resolve_left (fun g => by have hc116 := g.1; revert hc116; decide)
      replace w := w.aloadN (q := 120) (v := (.ref rw)) dp106m8_119 rfl rfl rfl
      replace w := w.aloadN (q := 121) (v := (.ref a)) dp106m8_120 rfl rfl rfl
      replace w := w.getF (q := 124) (v := (.ref ph)) (hw _ (List.mem_of_getElem? (i := 11) rfl)) (S.1.2.1) dp106m8_121 rfl
      replace w := w.iloadN (q := 125) (v := (0 : Int32)) dp106m8_124 rfl rfl
      replace w := w.ldIl (q := 126) (v := (.int q0)) (S.2.1) 0 rfl rfl dp106m8_125 rfl
      replace w := w.iconst (q := 127) (z := (-1 : Int32)) dp106m8_126 (by decide) rfl
      obtain ⟨h76, W77, w⟩ := stF (q := 128) w (S.2.2.2.2.1) m0 hm0 bm0 (S.ge.2.2.2.2.1) dp106m8_127 rfl
      replace S := S.setRw W77
      obtain ⟨f78, uf78⟩ : ∃ g : Nat → Int32, g = fun i => if i = m0 then (-1 : Int32) else f63 i := ⟨_, rfl⟩
      rw [← uf78] at S
      replace uf78 : ∀ i, f78 i = if i = m0 then (-1 : Int32) else f63 i := fun i => by rw [uf78]
      replace w := w.iinc (q := 131) (z := (1 : Int32)) (l' := #[.val (.ref a), .val (.ref rw), .val (.int (2 : Int32)), .val (.int (1 : Int32)), .val (.int q2), .val (.int (0 : Int32))]) dp106m8_128 rfl (by decide) rfl rfl
      replace w := w.goto (q := 114) dp106m8_131 (by decide) (by decide)
      replace w := w.iloadN (q := 115) (v := (1 : Int32)) dp106m8_114 rfl rfl
      replace w := w.iloadN (q := 116) (v := (2 : Int32)) dp106m8_115 rfl rfl
      obtain ⟨-, w⟩ := (w.icmpGe (q := 134) (q' := 119) (xi := 1) (yi := 2) dp106m8_116 rfl rfl (by decide) (by decide) rfl).resolve_left (fun g => by have hc116 := g.1; revert hc116; decide)
      replace w := w.aloadN (q := 120) (v := (.ref rw)) dp106m8_119 rfl rfl rfl
      replace w := w.aloadN (q := 121) (v := (.ref a)) dp106m8_120 rfl rfl rfl
      replace w := w.getF (q := 124) (v := (.ref ph)) (hw _ (List.mem_of_getElem? (i := 11) rfl)) (S.1.2.1) dp106m8_121 rfl
      replace w := w.iloadN (q := 125) (v := (1 : Int32)) dp106m8_124 rfl rfl
      replace w := w.ldIl (q := 126) (v := (.int q1)) (S.2.1) 1 rfl rfl dp106m8_125 rfl
      replace w := w.iconst (q := 127) (z := (-1 : Int32)) dp106m8_126 (by decide) rfl
      obtain ⟨h79, W80, w⟩ := stF (q := 128) w (S.2.2.2.2.1) m1 hm1 bm1 (S.ge.2.2.2.2.1) dp106m8_127 rfl
      replace S := S.setRw W80
      obtain ⟨f81, uf81⟩ : ∃ g : Nat → Int32, g = fun i => if i = m1 then (-1 : Int32) else f78 i := ⟨_, rfl⟩
      rw [← uf81] at S
      replace uf81 : ∀ i, f81 i = if i = m1 then (-1 : Int32) else f78 i := fun i => by rw [uf81]
      replace w := w.iinc (q := 131) (z := (2 : Int32)) (l' := #[.val (.ref a), .val (.ref rw), .val (.int (2 : Int32)), .val (.int (2 : Int32)), .val (.int q2), .val (.int (0 : Int32))]) dp106m8_128 rfl (by decide) rfl rfl
      replace w := w.goto (q := 114) dp106m8_131 (by decide) (by decide)
      replace w := w.iloadN (q := 115) (v := (2 : Int32)) dp106m8_114 rfl rfl
      replace w := w.iloadN (q := 116) (v := (2 : Int32)) dp106m8_115 rfl rfl
      obtain ⟨-, w⟩ := (w.icmpGe (q := 134) (q' := 119) (xi := 2) (yi := 2) dp106m8_116 rfl rfl (by decide) (by decide) rfl).resolve_right (fun g => by have hc116 := g.1; revert hc116; decide)
      replace w := w.aloadN (q := 135) (v := (.ref a)) dp106m8_134 rfl rfl rfl
      replace w := w.iloadN (q := 136) (v := (2 : Int32)) dp106m8_135 rfl rfl
      obtain ⟨h82, W83, w⟩ := w.putF (q := 139) (C := "com/example/weaverbird/weaverbird/paraphrases/SourceRows") (hw _ (List.mem_of_getElem? (i := 23) rfl)) (S.1.2.2.2.2) (S.1.1) (Or.inl (hw _ (List.mem_of_getElem? (i := 24) rfl))) (hw _ (List.mem_of_getElem? (i := 3) rfl)) (ty := .int) (by decide) rfl rfl dp106m8_136 (S.ge.1) rfl
      replace S := S.put_size hw W83
      refine w.retV dp106m8_139 ⟨rfl, (2 : Int32), q0, q1, q2, s70, u1, u2, s73, v1, v2, f81, S, fun i => ?_, ?_⟩ (by decide) (by decide)
      · rw [uf81, uf78, uf63, uf20, hf]
        repeat (first | rfl | split | (exfalso; omega))
      · have ez : (2 : Int32).toInt = 2 := rfl
        unfold Pat; omega
    · by_cases hq2_m1 : m2 = m1
      · replace w := ldF (q := 24) (x := 1) w (S.2.2.2.2.1) m2 hm2 bm2 (by rw [uf63, if_pos (by omega)]) dp106m8_23 rfl
        replace w := w.istore (q := 26) (l' := #[.val (.ref a), .val (.ref rw), .val (.int (2 : Int32)), .val (.int (2 : Int32)), .val (.int q2), .val (.int (1 : Int32))]) dp106m8_24 rfl rfl
        replace w := w.iload (q := 28) (v := (1 : Int32)) dp106m8_26 rfl rfl
        obtain ⟨-, w⟩ := (w.ifGe (q := 74) (q' := 31) (xi := 1) dp106m8_28 rfl (by decide) (by decide) rfl).resolve_right (fun g => by have hc28 := g.1; revert hc28; decide)
        replace w := w.aloadN (q := 75) (v := (.ref a)) dp106m8_74 rfl rfl rfl
        replace w := w.getF (q := 78) (v := (.ref sg)) (hw _ (List.mem_of_getElem? (i := 14) rfl)) (S.1.2.2.1) dp106m8_75 rfl
        replace w := w.iload (q := 80) (v := (1 : Int32)) dp106m8_78 rfl rfl
        replace w := w.dup2 (q := 81) dp106m8_80 rfl rfl rfl
        replace w := w.ldDl (q := 82) (v := (.double (FP.i2d u1))) (S.2.2.1) 1 rfl rfl dp106m8_81 rfl
        replace w := w.aloadN (q := 83) (v := (.ref a)) dp106m8_82 rfl rfl rfl
        replace w := w.getF (q := 86) (v := (.ref sg)) (hw _ (List.mem_of_getElem? (i := 14) rfl)) (S.1.2.2.1) dp106m8_83 rfl
        replace w := w.iloadN (q := 87) (v := (2 : Int32)) dp106m8_86 rfl rfl
        replace w := w.ldDl (q := 88) (v := (.double (FP.i2d u2))) (S.2.2.1) 2 rfl rfl dp106m8_87 rfl
        obtain ⟨s84, hs84⟩ : ∃ z : Int32, u1 + u2 = z := ⟨_, rfl⟩
        have fs84 := own_add hs84 (by omega) (by omega) (by omega) (by omega)
        have gs84 := own_dadd hs84 (by omega) (by omega) (by omega) (by omega)
        replace w := w.dadd (q := 89) dp106m8_88 (by rw [gs84]; exact own_nn _) gs84 rfl
        obtain ⟨h85, W86, w⟩ := w.stDl (q := 90) (S.2.2.1) 1 rfl (by simp only [List.length_cons]; omega) (S.ge.2.2.1) dp106m8_89 rfl
        replace S := S.setSg W86
        replace S : Sr Z h85 n0 a ph sg tg rw ep es et (3 : Int32) ((.int q0) :: (.int q1) :: (.int q2) :: pt) ((.double (FP.i2d u0)) :: (.double (FP.i2d s84)) :: (.double (FP.i2d u2)) :: st) ((.double (FP.i2d v0)) :: (.double (FP.i2d v1)) :: (.double (FP.i2d v2)) :: tt) f63 el fl gl := S
        replace w := w.aloadN (q := 91) (v := (.ref a)) dp106m8_90 rfl rfl rfl
        replace w := w.getF (q := 94) (v := (.ref tg)) (hw _ (List.mem_of_getElem? (i := 16) rfl)) (S.1.2.2.2.1) dp106m8_91 rfl
        replace w := w.iload (q := 96) (v := (1 : Int32)) dp106m8_94 rfl rfl
        replace w := w.dup2 (q := 97) dp106m8_96 rfl rfl rfl
        replace w := w.ldDl (q := 98) (v := (.double (FP.i2d v1))) (S.2.2.2.1) 1 rfl rfl dp106m8_97 rfl
        replace w := w.aloadN (q := 99) (v := (.ref a)) dp106m8_98 rfl rfl rfl
        replace w := w.getF (q := 102) (v := (.ref tg)) (hw _ (List.mem_of_getElem? (i := 16) rfl)) (S.1.2.2.2.1) dp106m8_99 rfl
        replace w := w.iloadN (q := 103) (v := (2 : Int32)) dp106m8_102 rfl rfl
        replace w := w.ldDl (q := 104) (v := (.double (FP.i2d v2))) (S.2.2.2.1) 2 rfl rfl dp106m8_103 rfl
        obtain ⟨s87, hs87⟩ : ∃ z : Int32, v1 + v2 = z := ⟨_, rfl⟩
        have fs87 := own_add hs87 (by omega) (by omega) (by omega) (by omega)
        have gs87 := own_dadd hs87 (by omega) (by omega) (by omega) (by omega)
        replace w := w.dadd (q := 105) dp106m8_104 (by rw [gs87]; exact own_nn _) gs87 rfl
        obtain ⟨h88, W89, w⟩ := w.stDl (q := 106) (S.2.2.2.1) 1 rfl (by simp only [List.length_cons]; omega) (S.ge.2.2.2.1) dp106m8_105 rfl
        replace S := S.setTg W89
        replace S : Sr Z h88 n0 a ph sg tg rw ep es et (3 : Int32) ((.int q0) :: (.int q1) :: (.int q2) :: pt) ((.double (FP.i2d u0)) :: (.double (FP.i2d s84)) :: (.double (FP.i2d u2)) :: st) ((.double (FP.i2d v0)) :: (.double (FP.i2d s87)) :: (.double (FP.i2d v2)) :: tt) f63 el fl gl := S
        replace w := w.iinc (q := 109) (z := (3 : Int32)) (l' := #[.val (.ref a), .val (.ref rw), .val (.int (2 : Int32)), .val (.int (3 : Int32)), .val (.int q2), .val (.int (1 : Int32))]) dp106m8_106 rfl (by decide) rfl rfl
        replace w := w.goto (q := 4) dp106m8_109 (by decide) (by decide)
        replace w := w.iloadN (q := 5) (v := (3 : Int32)) dp106m8_4 rfl rfl
        replace w := w.aloadN (q := 6) (v := (.ref a)) dp106m8_5 rfl rfl rfl
        replace w := w.getF (q := 9) (v := (.int (3 : Int32))) (hw _ (List.mem_of_getElem? (i := 23) rfl)) (S.1.2.2.2.2) dp106m8_6 rfl
        obtain ⟨-, w⟩ := (w.icmpGe (q := 112) (q' := 12) (xi := 3) (yi := 3) dp106m8_9 rfl rfl (by decide) (by decide) rfl).resolve_right (fun g => by have hc9 := g.1; revert hc9; decide)
        replace w := w.iconst (q := 113) (z := (0 : Int32)) dp106m8_112 (by decide) rfl
        replace w := w.istoreN (q := 114) (l' := #[.val (.ref a), .val (.ref rw), .val (.int (2 : Int32)), .val (.int (0 : Int32)), .val (.int q2), .val (.int (1 : Int32))]) dp106m8_113 rfl rfl
        replace w := w.iloadN (q := 115) (v := (0 : Int32)) dp106m8_114 rfl rfl
        replace w := w.iloadN (q := 116) (v := (2 : Int32)) dp106m8_115 rfl rfl
        obtain ⟨-, w⟩ := (w.icmpGe (q := 134) (q' := 119) (xi := 0) (yi := 2) dp106m8_116 rfl rfl (by decide) (by decide) rfl).resolve_left (fun g => by have hc116 := g.1; revert hc116; decide)
        replace w := w.aloadN (q := 120) (v := (.ref rw)) dp106m8_119 rfl rfl rfl
        replace w := w.aloadN (q := 121) (v := (.ref a)) dp106m8_120 rfl rfl rfl
        replace w := w.getF (q := 124) (v := (.ref ph)) (hw _ (List.mem_of_getElem? (i := 11) rfl)) (S.1.2.1) dp106m8_121 rfl
        replace w := w.iloadN (q := 125) (v := (0 : Int32)) dp106m8_124 rfl rfl
        replace w := w.ldIl (q := 126) (v := (.int q0)) (S.2.1) 0 rfl rfl dp106m8_125 rfl
        replace w := w.iconst (q := 127) (z := (-1 : Int32)) dp106m8_126 (by decide) rfl
        obtain ⟨h90, W91, w⟩ := stF (q := 128) w (S.2.2.2.2.1) m0 hm0 bm0 (S.ge.2.2.2.2.1) dp106m8_127 rfl
        replace S := S.setRw W91
        obtain ⟨f92, uf92⟩ : ∃ g : Nat → Int32, g = fun i => if i = m0 then (-1 : Int32) else f63 i := ⟨_, rfl⟩
        rw [← uf92] at S
        replace uf92 : ∀ i, f92 i = if i = m0 then (-1 : Int32) else f63 i := fun i => by rw [uf92]
        replace w := w.iinc (q := 131) (z := (1 : Int32)) (l' := #[.val (.ref a), .val (.ref rw), .val (.int (2 : Int32)), .val (.int (1 : Int32)), .val (.int q2), .val (.int (1 : Int32))]) dp106m8_128 rfl (by decide) rfl rfl
        replace w := w.goto (q := 114) dp106m8_131 (by decide) (by decide)
        replace w := w.iloadN (q := 115) (v := (1 : Int32)) dp106m8_114 rfl rfl
        replace w := w.iloadN (q := 116) (v := (2 : Int32)) dp106m8_115 rfl rfl
        obtain ⟨-, w⟩ := (w.icmpGe (q := 134) (q' := 119) (xi := 1) (yi := 2) dp106m8_116 rfl rfl (by decide) (by decide) rfl).resolve_left (fun g => by have hc116 := g.1; revert hc116; decide)
        replace w := w.aloadN (q := 120) (v := (.ref rw)) dp106m8_119 rfl rfl rfl
        replace w := w.aloadN (q := 121) (v := (.ref a)) dp106m8_120 rfl rfl rfl
        replace w := w.getF (q := 124) (v := (.ref ph)) (hw _ (List.mem_of_getElem? (i := 11) rfl)) (S.1.2.1) dp106m8_121 rfl
        replace w := w.iloadN (q := 125) (v := (1 : Int32)) dp106m8_124 rfl rfl
        replace w := w.ldIl (q := 126) (v := (.int q1)) (S.2.1) 1 rfl rfl dp106m8_125 rfl
        replace w := w.iconst (q := 127) (z := (-1 : Int32)) dp106m8_126 (by decide) rfl
        obtain ⟨h93, W94, w⟩ := stF (q := 128) w (S.2.2.2.2.1) m1 hm1 bm1 (S.ge.2.2.2.2.1) dp106m8_127 rfl
        replace S := S.setRw W94
        obtain ⟨f95, uf95⟩ : ∃ g : Nat → Int32, g = fun i => if i = m1 then (-1 : Int32) else f92 i := ⟨_, rfl⟩
        rw [← uf95] at S
        replace uf95 : ∀ i, f95 i = if i = m1 then (-1 : Int32) else f92 i := fun i => by rw [uf95]
        replace w := w.iinc (q := 131) (z := (2 : Int32)) (l' := #[.val (.ref a), .val (.ref rw), .val (.int (2 : Int32)), .val (.int (2 : Int32)), .val (.int q2), .val (.int (1 : Int32))]) dp106m8_128 rfl (by decide) rfl rfl
        replace w := w.goto (q := 114) dp106m8_131 (by decide) (by decide)
        replace w := w.iloadN (q := 115) (v := (2 : Int32)) dp106m8_114 rfl rfl
        replace w := w.iloadN (q := 116) (v := (2 : Int32)) dp106m8_115 rfl rfl
        obtain ⟨-, w⟩ := (w.icmpGe (q := 134) (q' := 119) (xi := 2) (yi := 2) dp106m8_116 rfl rfl (by decide) (by decide) rfl).resolve_right (fun g => by have hc116 := g.1; revert hc116; decide)
        replace w := w.aloadN (q := 135) (v := (.ref a)) dp106m8_134 rfl rfl rfl
        replace w := w.iloadN (q := 136) (v := (2 : Int32)) dp106m8_135 rfl rfl
        obtain ⟨h96, W97, w⟩ := w.putF (q := 139) (C := "com/example/weaverbird/weaverbird/paraphrases/SourceRows") (hw _ (List.mem_of_getElem? (i := 23) rfl)) (S.1.2.2.2.2) (S.1.1) (Or.inl (hw _ (List.mem_of_getElem? (i := 24) rfl))) (hw _ (List.mem_of_getElem? (i := 3) rfl)) (ty := .int) (by decide) rfl rfl dp106m8_136 (S.ge.1) rfl
        replace S := S.put_size hw W97
        refine w.retV dp106m8_139 ⟨rfl, (2 : Int32), q0, q1, q2, u0, s84, u2, v0, s87, v2, f95, S, fun i => ?_, ?_⟩ (by decide) (by decide)
        · rw [uf95, uf92, uf63, uf20, hf]
          repeat (first | rfl | split | (exfalso; omega))
        · have ez : (2 : Int32).toInt = 2 := rfl
          unfold Pat; omega
      · replace w := ldF (q := 24) (x := -1) w (S.2.2.2.2.1) m2 hm2 bm2 (by rw [uf63, if_neg (by omega), uf20, if_neg (by omega), hf]) dp106m8_23 rfl
        replace w := w.istore (q := 26) (l' := #[.val (.ref a), .val (.ref rw), .val (.int (2 : Int32)), .val (.int (2 : Int32)), .val (.int q2), .val (.int (-1 : Int32))]) dp106m8_24 rfl rfl
        replace w := w.iload (q := 28) (v := (-1 : Int32)) dp106m8_26 rfl rfl
        obtain ⟨-, w⟩ := (w.ifGe (q := 74) (q' := 31) (xi := - 1) dp106m8_28 rfl (by decide) (by decide) rfl).resolve_left (fun g => by have hc28 := g.1; revert hc28; decide)
        replace w := w.aloadN (q := 32) (v := (.ref rw)) dp106m8_31 rfl rfl rfl
        replace w := w.iload (q := 34) (v := q2) dp106m8_32 rfl rfl
        replace w := w.iloadN (q := 35) (v := (2 : Int32)) dp106m8_34 rfl rfl
        obtain ⟨h98, W99, w⟩ := stF (q := 36) w (S.2.2.2.2.1) m2 hm2 bm2 (S.ge.2.2.2.2.1) dp106m8_35 rfl
        replace S := S.setRw W99
        obtain ⟨f100, uf100⟩ : ∃ g : Nat → Int32, g = fun i => if i = m2 then (2 : Int32) else f63 i := ⟨_, rfl⟩
        rw [← uf100] at S
        replace uf100 : ∀ i, f100 i = if i = m2 then (2 : Int32) else f63 i := fun i => by rw [uf100]
        replace w := w.aloadN (q := 37) (v := (.ref a)) dp106m8_36 rfl rfl rfl
        replace w := w.getF (q := 40) (v := (.ref ph)) (hw _ (List.mem_of_getElem? (i := 11) rfl)) (S.1.2.1) dp106m8_37 rfl
        replace w := w.iloadN (q := 41) (v := (2 : Int32)) dp106m8_40 rfl rfl
        replace w := w.iload (q := 43) (v := q2) dp106m8_41 rfl rfl
        obtain ⟨h101, W102, w⟩ := w.stIl (q := 44) (S.2.1) 2 rfl (by simp only [List.length_cons]; omega) (S.ge.2.1) dp106m8_43 rfl
        replace S := S.setPh W102
        replace S : Sr Z h101 n0 a ph sg tg rw ep es et (3 : Int32) ((.int q0) :: (.int q1) :: (.int q2) :: pt) ((.double (FP.i2d u0)) :: (.double (FP.i2d u1)) :: (.double (FP.i2d u2)) :: st) ((.double (FP.i2d v0)) :: (.double (FP.i2d v1)) :: (.double (FP.i2d v2)) :: tt) f100 el fl gl := S
        replace w := w.aloadN (q := 45) (v := (.ref a)) dp106m8_44 rfl rfl rfl
        replace w := w.getF (q := 48) (v := (.ref sg)) (hw _ (List.mem_of_getElem? (i := 14) rfl)) (S.1.2.2.1) dp106m8_45 rfl
        replace w := w.iloadN (q := 49) (v := (2 : Int32)) dp106m8_48 rfl rfl
        replace w := w.aloadN (q := 50) (v := (.ref a)) dp106m8_49 rfl rfl rfl
        replace w := w.getF (q := 53) (v := (.ref sg)) (hw _ (List.mem_of_getElem? (i := 14) rfl)) (S.1.2.2.1) dp106m8_50 rfl
        replace w := w.iloadN (q := 54) (v := (2 : Int32)) dp106m8_53 rfl rfl
        replace w := w.ldDl (q := 55) (v := (.double (FP.i2d u2))) (S.2.2.1) 2 rfl rfl dp106m8_54 rfl
        obtain ⟨h103, W104, w⟩ := w.stDl (q := 56) (S.2.2.1) 2 rfl (by simp only [List.length_cons]; omega) (S.ge.2.2.1) dp106m8_55 rfl
        replace S := S.setSg W104
        replace S : Sr Z h103 n0 a ph sg tg rw ep es et (3 : Int32) ((.int q0) :: (.int q1) :: (.int q2) :: pt) ((.double (FP.i2d u0)) :: (.double (FP.i2d u1)) :: (.double (FP.i2d u2)) :: st) ((.double (FP.i2d v0)) :: (.double (FP.i2d v1)) :: (.double (FP.i2d v2)) :: tt) f100 el fl gl := S
        replace w := w.aloadN (q := 57) (v := (.ref a)) dp106m8_56 rfl rfl rfl
        replace w := w.getF (q := 60) (v := (.ref tg)) (hw _ (List.mem_of_getElem? (i := 16) rfl)) (S.1.2.2.2.1) dp106m8_57 rfl
        replace w := w.iloadN (q := 61) (v := (2 : Int32)) dp106m8_60 rfl rfl
        replace w := w.aloadN (q := 62) (v := (.ref a)) dp106m8_61 rfl rfl rfl
        replace w := w.getF (q := 65) (v := (.ref tg)) (hw _ (List.mem_of_getElem? (i := 16) rfl)) (S.1.2.2.2.1) dp106m8_62 rfl
        replace w := w.iloadN (q := 66) (v := (2 : Int32)) dp106m8_65 rfl rfl
        replace w := w.ldDl (q := 67) (v := (.double (FP.i2d v2))) (S.2.2.2.1) 2 rfl rfl dp106m8_66 rfl
        obtain ⟨h105, W106, w⟩ := w.stDl (q := 68) (S.2.2.2.1) 2 rfl (by simp only [List.length_cons]; omega) (S.ge.2.2.2.1) dp106m8_67 rfl
        replace S := S.setTg W106
        replace S : Sr Z h105 n0 a ph sg tg rw ep es et (3 : Int32) ((.int q0) :: (.int q1) :: (.int q2) :: pt) ((.double (FP.i2d u0)) :: (.double (FP.i2d u1)) :: (.double (FP.i2d u2)) :: st) ((.double (FP.i2d v0)) :: (.double (FP.i2d v1)) :: (.double (FP.i2d v2)) :: tt) f100 el fl gl := S
        replace w := w.iinc (q := 71) (z := (3 : Int32)) (l' := #[.val (.ref a), .val (.ref rw), .val (.int (3 : Int32)), .val (.int (2 : Int32)), .val (.int q2), .val (.int (-1 : Int32))]) dp106m8_68 rfl (by decide) rfl rfl
        replace w := w.goto (q := 106) dp106m8_71 (by decide) (by decide)
        replace w := w.iinc (q := 109) (z := (3 : Int32)) (l' := #[.val (.ref a), .val (.ref rw), .val (.int (3 : Int32)), .val (.int (3 : Int32)), .val (.int q2), .val (.int (-1 : Int32))]) dp106m8_106 rfl (by decide) rfl rfl
        replace w := w.goto (q := 4) dp106m8_109 (by decide) (by decide)
        replace w := w.iloadN (q := 5) (v := (3 : Int32)) dp106m8_4 rfl rfl
        replace w := w.aloadN (q := 6) (v := (.ref a)) dp106m8_5 rfl rfl rfl
        replace w := w.getF (q := 9) (v := (.int (3 : Int32))) (hw _ (List.mem_of_getElem? (i := 23) rfl)) (S.1.2.2.2.2) dp106m8_6 rfl
        obtain ⟨-, w⟩ := (w.icmpGe (q := 112) (q' := 12) (xi := 3) (yi := 3) dp106m8_9 rfl rfl (by decide) (by decide) rfl).resolve_right (fun g => by have hc9 := g.1; revert hc9; decide)
        replace w := w.iconst (q := 113) (z := (0 : Int32)) dp106m8_112 (by decide) rfl
        replace w := w.istoreN (q := 114) (l' := #[.val (.ref a), .val (.ref rw), .val (.int (3 : Int32)), .val (.int (0 : Int32)), .val (.int q2), .val (.int (-1 : Int32))]) dp106m8_113 rfl rfl
        replace w := w.iloadN (q := 115) (v := (0 : Int32)) dp106m8_114 rfl rfl
        replace w := w.iloadN (q := 116) (v := (3 : Int32)) dp106m8_115 rfl rfl
        obtain ⟨-, w⟩ := (w.icmpGe (q := 134) (q' := 119) (xi := 0) (yi := 3) dp106m8_116 rfl rfl (by decide) (by decide) rfl).resolve_left (fun g => by have hc116 := g.1; revert hc116; decide)
        replace w := w.aloadN (q := 120) (v := (.ref rw)) dp106m8_119 rfl rfl rfl
        replace w := w.aloadN (q := 121) (v := (.ref a)) dp106m8_120 rfl rfl rfl
        replace w := w.getF (q := 124) (v := (.ref ph)) (hw _ (List.mem_of_getElem? (i := 11) rfl)) (S.1.2.1) dp106m8_121 rfl
        replace w := w.iloadN (q := 125) (v := (0 : Int32)) dp106m8_124 rfl rfl
        replace w := w.ldIl (q := 126) (v := (.int q0)) (S.2.1) 0 rfl rfl dp106m8_125 rfl
        replace w := w.iconst (q := 127) (z := (-1 : Int32)) dp106m8_126 (by decide) rfl
        obtain ⟨h107, W108, w⟩ := stF (q := 128) w (S.2.2.2.2.1) m0 hm0 bm0 (S.ge.2.2.2.2.1) dp106m8_127 rfl
        replace S := S.setRw W108
        obtain ⟨f109, uf109⟩ : ∃ g : Nat → Int32, g = fun i => if i = m0 then (-1 : Int32) else f100 i := ⟨_, rfl⟩
        rw [← uf109] at S
        replace uf109 : ∀ i, f109 i = if i = m0 then (-1 : Int32) else f100 i := fun i => by rw [uf109]
        replace w := w.iinc (q := 131) (z := (1 : Int32)) (l' := #[.val (.ref a), .val (.ref rw), .val (.int (3 : Int32)), .val (.int (1 : Int32)), .val (.int q2), .val (.int (-1 : Int32))]) dp106m8_128 rfl (by decide) rfl rfl
        replace w := w.goto (q := 114) dp106m8_131 (by decide) (by decide)
        replace w := w.iloadN (q := 115) (v := (1 : Int32)) dp106m8_114 rfl rfl
        replace w := w.iloadN (q := 116) (v := (3 : Int32)) dp106m8_115 rfl rfl
        obtain ⟨-, w⟩ := (w.icmpGe (q := 134) (q' := 119) (xi := 1) (yi := 3) dp106m8_116 rfl rfl (by decide) (by decide) rfl).resolve_left (fun g => by have hc116 := g.1; revert hc116; decide)
        replace w := w.aloadN (q := 120) (v := (.ref rw)) dp106m8_119 rfl rfl rfl
        replace w := w.aloadN (q := 121) (v := (.ref a)) dp106m8_120 rfl rfl rfl
        replace w := w.getF (q := 124) (v := (.ref ph)) (hw _ (List.mem_of_getElem? (i := 11) rfl)) (S.1.2.1) dp106m8_121 rfl
        replace w := w.iloadN (q := 125) (v := (1 : Int32)) dp106m8_124 rfl rfl
        replace w := w.ldIl (q := 126) (v := (.int q1)) (S.2.1) 1 rfl rfl dp106m8_125 rfl
        replace w := w.iconst (q := 127) (z := (-1 : Int32)) dp106m8_126 (by decide) rfl
        obtain ⟨h110, W111, w⟩ := stF (q := 128) w (S.2.2.2.2.1) m1 hm1 bm1 (S.ge.2.2.2.2.1) dp106m8_127 rfl
        replace S := S.setRw W111
        obtain ⟨f112, uf112⟩ : ∃ g : Nat → Int32, g = fun i => if i = m1 then (-1 : Int32) else f109 i := ⟨_, rfl⟩
        rw [← uf112] at S
        replace uf112 : ∀ i, f112 i = if i = m1 then (-1 : Int32) else f109 i := fun i => by rw [uf112]
        replace w := w.iinc (q := 131) (z := (2 : Int32)) (l' := #[.val (.ref a), .val (.ref rw), .val (.int (3 : Int32)), .val (.int (2 : Int32)), .val (.int q2), .val (.int (-1 : Int32))]) dp106m8_128 rfl (by decide) rfl rfl
        replace w := w.goto (q := 114) dp106m8_131 (by decide) (by decide)
        replace w := w.iloadN (q := 115) (v := (2 : Int32)) dp106m8_114 rfl rfl
        replace w := w.iloadN (q := 116) (v := (3 : Int32)) dp106m8_115 rfl rfl
        obtain ⟨-, w⟩ := (w.icmpGe (q := 134) (q' := 119) (xi := 2) (yi := 3) dp106m8_116 rfl rfl (by decide) (by decide) rfl).resolve_left (fun g => by have hc116 := g.1; revert hc116; decide)
        replace w := w.aloadN (q := 120) (v := (.ref rw)) dp106m8_119 rfl rfl rfl
        replace w := w.aloadN (q := 121) (v := (.ref a)) dp106m8_120 rfl rfl rfl
        replace w := w.getF (q := 124) (v := (.ref ph)) (hw _ (List.mem_of_getElem? (i := 11) rfl)) (S.1.2.1) dp106m8_121 rfl
        replace w := w.iloadN (q := 125) (v := (2 : Int32)) dp106m8_124 rfl rfl
        replace w := w.ldIl (q := 126) (v := (.int q2)) (S.2.1) 2 rfl rfl dp106m8_125 rfl
        replace w := w.iconst (q := 127) (z := (-1 : Int32)) dp106m8_126 (by decide) rfl
        obtain ⟨h113, W114, w⟩ := stF (q := 128) w (S.2.2.2.2.1) m2 hm2 bm2 (S.ge.2.2.2.2.1) dp106m8_127 rfl
        replace S := S.setRw W114
        obtain ⟨f115, uf115⟩ : ∃ g : Nat → Int32, g = fun i => if i = m2 then (-1 : Int32) else f112 i := ⟨_, rfl⟩
        rw [← uf115] at S
        replace uf115 : ∀ i, f115 i = if i = m2 then (-1 : Int32) else f112 i := fun i => by rw [uf115]
        replace w := w.iinc (q := 131) (z := (3 : Int32)) (l' := #[.val (.ref a), .val (.ref rw), .val (.int (3 : Int32)), .val (.int (3 : Int32)), .val (.int q2), .val (.int (-1 : Int32))]) dp106m8_128 rfl (by decide) rfl rfl
        replace w := w.goto (q := 114) dp106m8_131 (by decide) (by decide)
        replace w := w.iloadN (q := 115) (v := (3 : Int32)) dp106m8_114 rfl rfl
        replace w := w.iloadN (q := 116) (v := (3 : Int32)) dp106m8_115 rfl rfl
        obtain ⟨-, w⟩ := (w.icmpGe (q := 134) (q' := 119) (xi := 3) (yi := 3) dp106m8_116 rfl rfl (by decide) (by decide) rfl).resolve_right (fun g => by have hc116 := g.1; revert hc116; decide)
        replace w := w.aloadN (q := 135) (v := (.ref a)) dp106m8_134 rfl rfl rfl
        replace w := w.iloadN (q := 136) (v := (3 : Int32)) dp106m8_135 rfl rfl
        obtain ⟨h116, W117, w⟩ := w.putF (q := 139) (C := "com/example/weaverbird/weaverbird/paraphrases/SourceRows") (hw _ (List.mem_of_getElem? (i := 23) rfl)) (S.1.2.2.2.2) (S.1.1) (Or.inl (hw _ (List.mem_of_getElem? (i := 24) rfl))) (hw _ (List.mem_of_getElem? (i := 3) rfl)) (ty := .int) (by decide) rfl rfl dp106m8_136 (S.ge.1) rfl
        replace S := S.put_size hw W117
        refine w.retV dp106m8_139 ⟨rfl, (3 : Int32), q0, q1, q2, u0, u1, u2, v0, v1, v2, f115, S, fun i => ?_, ?_⟩ (by decide) (by decide)
        · rw [uf115, uf112, uf109, uf100, uf63, uf20, hf]
          repeat (first | rfl | split | (exfalso; omega))
        · have ez : (3 : Int32).toInt = 3 := rfl
          unfold Pat; omega
set_option maxRecDepth 65536 in
set_option maxHeartbeats 40000000 in
theorem own_law (l : Launch) (Z : State) (a0 : Array Value) (hw : ∀ d ∈ tables_1, d.before a0 Z = true) (h0 : Heap) (n0 : Nat) (Z0 : n0 ≤ h0.size) (x0 x1 x2 x3 : Int32) :
    Met l Z x code maxLocals ret room_1 n0 #[(.int x0), (.int x1), (.int x2), (.int x3)] h0 (fun v _ => v = some (.int 1)) := by
  refine Met.of (Ls := #[.val (.int x0), .val (.int x1), .val (.int x2), .val (.int x3), .unset, .unset, .unset, .unset, .unset, .unset, .unset, .unset, .unset, .unset, .unset, .unset, .unset, .unset, .unset, .unset]) (plainFor_of_name pn_1) (fun m => by first | (simp [entryFrame, mkF, argsToLocals, Value.category, maxLocals]; done) | rfl) (fun κ w => ?_)
  replace w : Wk κ l Z "com/example/weaverbird/weaverbird/paraphrases/SourceRowsGatherByPhrasePinLaw" "law" code 20 (some .boolean) room_1 n0 h0 0 0 0 #[.val (.int x0), .val (.int x1), .val (.int x2), .val (.int x3), .unset, .unset, .unset, .unset, .unset, .unset, .unset, .unset, .unset, .unset, .unset, .unset, .unset, .unset, .unset, .unset] [] := w
  have e00 : (0 : Int32).toInt = 0 := rfl
  replace w := w.iloadN (q := 1) (v := x0) at_0 rfl rfl
  replace w := w.iconst (q := 2) (z := (3 : Int32)) at_1 (by decide) rfl
  obtain ⟨q0, hq0⟩ : ∃ z : Int32, x0 &&& (3 : Int32) = z := ⟨_, rfl⟩
  replace w := w.iand (q := 3) at_2 hq0 rfl
  obtain ⟨m0, hm0, bm0⟩ := own_m3 hq0
  replace w := w.istore (q := 5) (l' := #[.val (.int x0), .val (.int x1), .val (.int x2), .val (.int x3), .val (.int q0), .unset, .unset, .unset, .unset, .unset, .unset, .unset, .unset, .unset, .unset, .unset, .unset, .unset, .unset, .unset]) at_3 rfl rfl
  replace w := w.iloadN (q := 6) (v := x0) at_5 rfl rfl
  replace w := w.iconst (q := 7) (z := (2 : Int32)) at_6 (by decide) rfl
  obtain ⟨z118, hz118⟩ : ∃ z : Int32, XT.ushr x0 (2 : Int32) = z := ⟨_, rfl⟩
  replace w := w.iushr (q := 8) at_7 hz118 rfl
  replace w := w.iconst (q := 9) (z := (3 : Int32)) at_8 (by decide) rfl
  obtain ⟨q1, hq1⟩ : ∃ z : Int32, z118 &&& (3 : Int32) = z := ⟨_, rfl⟩
  replace w := w.iand (q := 10) at_9 hq1 rfl
  obtain ⟨m1, hm1, bm1⟩ := own_m3 hq1
  replace w := w.istore (q := 12) (l' := #[.val (.int x0), .val (.int x1), .val (.int x2), .val (.int x3), .val (.int q0), .val (.int q1), .unset, .unset, .unset, .unset, .unset, .unset, .unset, .unset, .unset, .unset, .unset, .unset, .unset, .unset]) at_10 rfl rfl
  replace w := w.iloadN (q := 13) (v := x0) at_12 rfl rfl
  replace w := w.iconst (q := 14) (z := (4 : Int32)) at_13 (by decide) rfl
  obtain ⟨z119, hz119⟩ : ∃ z : Int32, XT.ushr x0 (4 : Int32) = z := ⟨_, rfl⟩
  replace w := w.iushr (q := 15) at_14 hz119 rfl
  replace w := w.iconst (q := 16) (z := (3 : Int32)) at_15 (by decide) rfl
  obtain ⟨q2, hq2⟩ : ∃ z : Int32, z119 &&& (3 : Int32) = z := ⟨_, rfl⟩
  replace w := w.iand (q := 17) at_16 hq2 rfl
  obtain ⟨m2, hm2, bm2⟩ := own_m3 hq2
  replace w := w.istore (q := 19) (l' := #[.val (.int x0), .val (.int x1), .val (.int x2), .val (.int x3), .val (.int q0), .val (.int q1), .val (.int q2), .unset, .unset, .unset, .unset, .unset, .unset, .unset, .unset, .unset, .unset, .unset, .unset, .unset]) at_17 rfl rfl
  replace w := w.iloadN (q := 20) (v := x1) at_19 rfl rfl
  replace w := w.ldcI (q := 22) (z := (65535 : Int32)) (hw _ (List.mem_of_getElem? (i := 0) rfl)) at_20 rfl
  obtain ⟨u0, hu0⟩ : ∃ z : Int32, x1 &&& (65535 : Int32) = z := ⟨_, rfl⟩
  replace w := w.iand (q := 23) at_22 hu0 rfl
  have bu0 := own_m16 hu0
  replace w := w.istore (q := 25) (l' := #[.val (.int x0), .val (.int x1), .val (.int x2), .val (.int x3), .val (.int q0), .val (.int q1), .val (.int q2), .val (.int u0), .unset, .unset, .unset, .unset, .unset, .unset, .unset, .unset, .unset, .unset, .unset, .unset]) at_23 rfl rfl
  replace w := w.iloadN (q := 26) (v := x1) at_25 rfl rfl
  replace w := w.bipush (q := 28) (z := (16 : Int32)) at_26 (by decide) rfl
  obtain ⟨v0, hv0⟩ : ∃ z : Int32, XT.ushr x1 (16 : Int32) = z := ⟨_, rfl⟩
  replace w := w.iushr (q := 29) at_28 hv0 rfl
  have bv0 := own_u16 hv0
  replace w := w.istore (q := 31) (l' := #[.val (.int x0), .val (.int x1), .val (.int x2), .val (.int x3), .val (.int q0), .val (.int q1), .val (.int q2), .val (.int u0), .val (.int v0), .unset, .unset, .unset, .unset, .unset, .unset, .unset, .unset, .unset, .unset, .unset]) at_29 rfl rfl
  replace w := w.iloadN (q := 32) (v := x2) at_31 rfl rfl
  replace w := w.ldcI (q := 34) (z := (65535 : Int32)) (hw _ (List.mem_of_getElem? (i := 0) rfl)) at_32 rfl
  obtain ⟨u1, hu1⟩ : ∃ z : Int32, x2 &&& (65535 : Int32) = z := ⟨_, rfl⟩
  replace w := w.iand (q := 35) at_34 hu1 rfl
  have bu1 := own_m16 hu1
  replace w := w.istore (q := 37) (l' := #[.val (.int x0), .val (.int x1), .val (.int x2), .val (.int x3), .val (.int q0), .val (.int q1), .val (.int q2), .val (.int u0), .val (.int v0), .val (.int u1), .unset, .unset, .unset, .unset, .unset, .unset, .unset, .unset, .unset, .unset]) at_35 rfl rfl
  replace w := w.iloadN (q := 38) (v := x2) at_37 rfl rfl
  replace w := w.bipush (q := 40) (z := (16 : Int32)) at_38 (by decide) rfl
  obtain ⟨v1, hv1⟩ : ∃ z : Int32, XT.ushr x2 (16 : Int32) = z := ⟨_, rfl⟩
  replace w := w.iushr (q := 41) at_40 hv1 rfl
  have bv1 := own_u16 hv1
  replace w := w.istore (q := 43) (l' := #[.val (.int x0), .val (.int x1), .val (.int x2), .val (.int x3), .val (.int q0), .val (.int q1), .val (.int q2), .val (.int u0), .val (.int v0), .val (.int u1), .val (.int v1), .unset, .unset, .unset, .unset, .unset, .unset, .unset, .unset, .unset]) at_41 rfl rfl
  replace w := w.iloadN (q := 44) (v := x3) at_43 rfl rfl
  replace w := w.ldcI (q := 46) (z := (65535 : Int32)) (hw _ (List.mem_of_getElem? (i := 0) rfl)) at_44 rfl
  obtain ⟨u2, hu2⟩ : ∃ z : Int32, x3 &&& (65535 : Int32) = z := ⟨_, rfl⟩
  replace w := w.iand (q := 47) at_46 hu2 rfl
  have bu2 := own_m16 hu2
  replace w := w.istore (q := 49) (l' := #[.val (.int x0), .val (.int x1), .val (.int x2), .val (.int x3), .val (.int q0), .val (.int q1), .val (.int q2), .val (.int u0), .val (.int v0), .val (.int u1), .val (.int v1), .val (.int u2), .unset, .unset, .unset, .unset, .unset, .unset, .unset, .unset]) at_47 rfl rfl
  replace w := w.iloadN (q := 50) (v := x3) at_49 rfl rfl
  replace w := w.bipush (q := 52) (z := (16 : Int32)) at_50 (by decide) rfl
  obtain ⟨v2, hv2⟩ : ∃ z : Int32, XT.ushr x3 (16 : Int32) = z := ⟨_, rfl⟩
  replace w := w.iushr (q := 53) at_52 hv2 rfl
  have bv2 := own_u16 hv2
  replace w := w.istore (q := 55) (l' := #[.val (.int x0), .val (.int x1), .val (.int x2), .val (.int x3), .val (.int q0), .val (.int q1), .val (.int q2), .val (.int u0), .val (.int v0), .val (.int u1), .val (.int v1), .val (.int u2), .val (.int v2), .unset, .unset, .unset, .unset, .unset, .unset, .unset]) at_53 rfl rfl
  replace w := w.iconst (q := 56) (z := (4 : Int32)) at_55 (by decide) rfl
  obtain ⟨h120, rw, crw, erw, Erw, Arw, w⟩ := w.newP (q := 58) (cap := 4) (ty := .int) (hw _ (List.mem_of_getElem? (i := 1) rfl)) rfl at_56 (by decide) (by decide) (by decide) (by decide) (by decide) rfl
  have ge_rw : n0 ≤ rw := by rw [erw]; exact Z0
  have Frw : Arl Z h120 rw .int [.int 0, .int 0, .int 0, .int 0] := Arl.new Arw rfl
  replace w := w.dup (q := 59) at_58 rfl rfl
  replace w := w.iconst (q := 60) (z := (0 : Int32)) at_59 (by decide) rfl
  replace w := w.iconst (q := 61) (z := (-1 : Int32)) at_60 (by decide) rfl
  obtain ⟨h121, W122, w⟩ := w.stIl (q := 62) Frw 0 rfl (ltl rfl) ge_rw at_61 rfl
  replace Frw := Frw.put W122
  replace w := w.dup (q := 63) at_62 rfl rfl
  replace w := w.iconst (q := 64) (z := (1 : Int32)) at_63 (by decide) rfl
  replace w := w.iconst (q := 65) (z := (-1 : Int32)) at_64 (by decide) rfl
  obtain ⟨h123, W124, w⟩ := w.stIl (q := 66) Frw 1 rfl (ltl rfl) ge_rw at_65 rfl
  replace Frw := Frw.put W124
  replace w := w.dup (q := 67) at_66 rfl rfl
  replace w := w.iconst (q := 68) (z := (2 : Int32)) at_67 (by decide) rfl
  replace w := w.iconst (q := 69) (z := (-1 : Int32)) at_68 (by decide) rfl
  obtain ⟨h125, W126, w⟩ := w.stIl (q := 70) Frw 2 rfl (ltl rfl) ge_rw at_69 rfl
  replace Frw := Frw.put W126
  replace w := w.dup (q := 71) at_70 rfl rfl
  replace w := w.iconst (q := 72) (z := (3 : Int32)) at_71 (by decide) rfl
  replace w := w.iconst (q := 73) (z := (-1 : Int32)) at_72 (by decide) rfl
  obtain ⟨h127, W128, w⟩ := w.stIl (q := 74) Frw 3 rfl (ltl rfl) ge_rw at_73 rfl
  replace Frw := Frw.put W128
  replace w := w.astore (q := 76) (l' := #[.val (.int x0), .val (.int x1), .val (.int x2), .val (.int x3), .val (.int q0), .val (.int q1), .val (.int q2), .val (.int u0), .val (.int v0), .val (.int u1), .val (.int v1), .val (.int u2), .val (.int v2), .val (.ref rw), .unset, .unset, .unset, .unset, .unset, .unset]) at_74 rfl rfl rfl
  replace w := w.iconst (q := 77) (z := (3 : Int32)) at_76 (by decide) rfl
  obtain ⟨h129, ep, cep, eep, Eep, Aep, w⟩ := w.newP (q := 79) (cap := 3) (ty := .int) (hw _ (List.mem_of_getElem? (i := 1) rfl)) rfl at_77 (by decide) (by decide) (by decide) (by decide) (by decide) rfl
  have lt_rw_ep : rw < ep := by rw [eep]; exact Frw.lt
  replace Frw := Frw.ext Eep
  have Fep : Arl Z h129 ep .int [.int 0, .int 0, .int 0] := Arl.new Aep rfl
  replace w := w.astore (q := 81) (l' := #[.val (.int x0), .val (.int x1), .val (.int x2), .val (.int x3), .val (.int q0), .val (.int q1), .val (.int q2), .val (.int u0), .val (.int v0), .val (.int u1), .val (.int v1), .val (.int u2), .val (.int v2), .val (.ref rw), .val (.ref ep), .unset, .unset, .unset, .unset, .unset]) at_79 rfl rfl rfl
  replace w := w.iconst (q := 82) (z := (3 : Int32)) at_81 (by decide) rfl
  obtain ⟨h130, es, ces, ees, Ees, Aes, w⟩ := w.newP (q := 84) (cap := 3) (ty := .int) (hw _ (List.mem_of_getElem? (i := 1) rfl)) rfl at_82 (by decide) (by decide) (by decide) (by decide) (by decide) rfl
  have lt_rw_es : rw < es := by rw [ees]; exact Frw.lt
  have lt_ep_es : ep < es := by rw [ees]; exact Fep.lt
  replace Frw := Frw.ext Ees
  replace Fep := Fep.ext Ees
  have Fes : Arl Z h130 es .int [.int 0, .int 0, .int 0] := Arl.new Aes rfl
  replace w := w.astore (q := 86) (l' := #[.val (.int x0), .val (.int x1), .val (.int x2), .val (.int x3), .val (.int q0), .val (.int q1), .val (.int q2), .val (.int u0), .val (.int v0), .val (.int u1), .val (.int v1), .val (.int u2), .val (.int v2), .val (.ref rw), .val (.ref ep), .val (.ref es), .unset, .unset, .unset, .unset]) at_84 rfl rfl rfl
  replace w := w.iconst (q := 87) (z := (3 : Int32)) at_86 (by decide) rfl
  obtain ⟨h131, et, cet, eet, Eet, Aet, w⟩ := w.newP (q := 89) (cap := 3) (ty := .int) (hw _ (List.mem_of_getElem? (i := 1) rfl)) rfl at_87 (by decide) (by decide) (by decide) (by decide) (by decide) rfl
  have lt_rw_et : rw < et := by rw [eet]; exact Frw.lt
  have lt_ep_et : ep < et := by rw [eet]; exact Fep.lt
  have lt_es_et : es < et := by rw [eet]; exact Fes.lt
  replace Frw := Frw.ext Eet
  replace Fep := Fep.ext Eet
  replace Fes := Fes.ext Eet
  have Fet : Arl Z h131 et .int [.int 0, .int 0, .int 0] := Arl.new Aet rfl
  replace w := w.astore (q := 91) (l' := #[.val (.int x0), .val (.int x1), .val (.int x2), .val (.int x3), .val (.int q0), .val (.int q1), .val (.int q2), .val (.int u0), .val (.int v0), .val (.int u1), .val (.int v1), .val (.int u2), .val (.int v2), .val (.ref rw), .val (.ref ep), .val (.ref es), .val (.ref et), .unset, .unset, .unset]) at_89 rfl rfl rfl
  obtain ⟨h50, a, eao, Eo, Ao, Do, w⟩ := w.newO (q := 94) (hw _ (List.mem_of_getElem? (i := 2) rfl)) (hw _ (List.mem_of_getElem? (i := 3) rfl)) (hw _ (List.mem_of_getElem? (i := 4) rfl)) at_91 (by decide) (by decide) rfl
  have Fphraseso : Fld Z h50 a "com/example/weaverbird/weaverbird/paraphrases/SourceRows" "phrases" "[I" .null := Do (Or.inl (hw _ (List.mem_of_getElem? (i := 12) rfl))) (ty := (.array .int)) (by decide)
  have FsourceGivenTargeto : Fld Z h50 a "com/example/weaverbird/weaverbird/paraphrases/SourceRows" "sourceGivenTarget" "[D" .null := Do (Or.inl (hw _ (List.mem_of_getElem? (i := 15) rfl))) (ty := (.array .double)) (by decide)
  have FtargetGivenSourceo : Fld Z h50 a "com/example/weaverbird/weaverbird/paraphrases/SourceRows" "targetGivenSource" "[D" .null := Do (Or.inl (hw _ (List.mem_of_getElem? (i := 17) rfl))) (ty := (.array .double)) (by decide)
  have Fsizeo : Fld Z h50 a "com/example/weaverbird/weaverbird/paraphrases/SourceRows" "size" "I" (.int (0 : Int32)) := Do (Or.inl (hw _ (List.mem_of_getElem? (i := 24) rfl))) (ty := .int) (by decide)
  have ge : n0 ≤ a := by have := Frw.lt; omega
  have lt_rw_a : rw < a := by rw [eao]; exact Frw.lt
  replace Frw := Frw.ext Eo
  have lt_ep_a : ep < a := by rw [eao]; exact Fep.lt
  replace Fep := Fep.ext Eo
  have lt_es_a : es < a := by rw [eao]; exact Fes.lt
  replace Fes := Fes.ext Eo
  have lt_et_a : et < a := by rw [eao]; exact Fet.lt
  replace Fet := Fet.ext Eo
  have So0 : So Z h50 a .null .null .null (.int 0) := ⟨Ao, Fphraseso, FsourceGivenTargeto, FtargetGivenSourceo, Fsizeo⟩
  replace w := w.dup (q := 95) at_94 rfl rfl
  obtain ⟨_, h51, ⟨rfl, ph, sg, tg, So1, Fph, Fsg, Ftg, lts, K⟩, w⟩ := w.callI (a := a) (y := (⟨"com/example/weaverbird/weaverbird/paraphrases/SourceRows", "<init>", "()V"⟩ : MethodName)) (argsL := []) (rest := [(.ref a)]) (own_init l Z a0 hw h50 n0 (Nat.le_of_lt (Nat.lt_of_le_of_lt ge So0.lt)) a ge So0) rfl (hw _ (List.mem_of_getElem? (i := 5) rfl)) (hw _ (List.mem_of_getElem? (i := 6) rfl)) (hw _ (List.mem_of_getElem? (i := 4) rfl)) (hw _ (List.mem_of_getElem? (i := 7) rfl)) (by decide) at_95 (lenOf pd_2 rfl) rfl rfl (by decide) (W := 1) (Nat.le_of_eq rfl) (by decide) (by decide) (by decide) (q := 98) rfl
  replace w := w [(.ref a)] rfl
  replace Frw := Frw.keep K (ninS (Nat.ne_of_lt lt_rw_a) nin0)
  replace Fep := Fep.keep K (ninS (Nat.ne_of_lt lt_ep_a) nin0)
  replace Fes := Fes.keep K (ninS (Nat.ne_of_lt lt_es_a) nin0)
  replace Fet := Fet.keep K (ninS (Nat.ne_of_lt lt_et_a) nin0)
  have S : Sr Z h51 n0 a ph sg tg rw ep es et 0 [.int 0, .int 0, .int 0, .int 0, .int 0, .int 0, .int 0, .int 0, .int 0, .int 0, .int 0, .int 0, .int 0, .int 0, .int 0, .int 0] [.double 0, .double 0, .double 0, .double 0, .double 0, .double 0, .double 0, .double 0, .double 0, .double 0, .double 0, .double 0, .double 0, .double 0, .double 0, .double 0] [.double 0, .double 0, .double 0, .double 0, .double 0, .double 0, .double 0, .double 0, .double 0, .double 0, .double 0, .double 0, .double 0, .double 0, .double 0, .double 0] (fun _ => (-1 : Int32)) [.int 0, .int 0, .int 0] [.int 0, .int 0, .int 0] [.int 0, .int 0, .int 0] := ⟨So1, Fph, Fsg, Ftg, Fa.of Frw, Fep, Fes, Fet, by omega⟩
  replace w := w.astore (q := 100) (l' := #[.val (.int x0), .val (.int x1), .val (.int x2), .val (.int x3), .val (.int q0), .val (.int q1), .val (.int q2), .val (.int u0), .val (.int v0), .val (.int u1), .val (.int v1), .val (.int u2), .val (.int v2), .val (.ref rw), .val (.ref ep), .val (.ref es), .val (.ref et), .val (.ref a), .unset, .unset]) at_98 rfl rfl rfl
  replace w := w.aload (q := 102) (v := (.ref a)) at_100 rfl rfl rfl
  replace w := w.iload (q := 104) (v := q0) at_102 rfl rfl
  replace w := w.iload (q := 106) (v := u0) at_104 rfl rfl
  replace w := w.i2d (q := 107) (z := FP.i2d u0) at_106 rfl rfl
  replace w := w.iload (q := 109) (v := v0) at_107 rfl rfl
  replace w := w.i2d (q := 110) (z := FP.i2d v0) at_109 rfl rfl
  obtain ⟨_, h132, ⟨rfl, S⟩, w⟩ := w.callV (a := a) (y := (⟨"com/example/weaverbird/weaverbird/paraphrases/SourceRows", "add", "(IDD)V"⟩ : MethodName)) (argsL := [(.int q0), (.double (FP.i2d u0)), (.double (FP.i2d v0))]) (rest := []) (own_ad l Z a0 hw _ n0 S.z0 a ph sg tg rw ep es et 0 _ _ _ _ _ _ _ 0 q0 (FP.i2d u0) (FP.i2d v0) S rfl rfl rfl rfl (by decide)) (S.1.1) (hw _ (List.mem_of_getElem? (i := 18) rfl)) (hw _ (List.mem_of_getElem? (i := 19) rfl)) (hw _ (List.mem_of_getElem? (i := 21) rfl)) (hw _ (List.mem_of_getElem? (i := 20) rfl)) (hw _ (List.mem_of_getElem? (i := 4) rfl)) (hw _ (List.mem_of_getElem? (i := 22) rfl)) (by decide) at_110 (lenOf pd_3 rfl) rfl rfl (by decide) (W := 0) (Nat.le_of_eq rfl) (by decide) (by decide) (by decide) (q := 113) rfl
  replace w := w [] rfl
  replace S : Sr Z h132 n0 a ph sg tg rw ep es et 1 [.int q0, .int 0, .int 0, .int 0, .int 0, .int 0, .int 0, .int 0, .int 0, .int 0, .int 0, .int 0, .int 0, .int 0, .int 0, .int 0] [.double (FP.i2d u0), .double 0, .double 0, .double 0, .double 0, .double 0, .double 0, .double 0, .double 0, .double 0, .double 0, .double 0, .double 0, .double 0, .double 0, .double 0] [.double (FP.i2d v0), .double 0, .double 0, .double 0, .double 0, .double 0, .double 0, .double 0, .double 0, .double 0, .double 0, .double 0, .double 0, .double 0, .double 0, .double 0] (fun _ => (-1 : Int32)) [.int 0, .int 0, .int 0] [.int 0, .int 0, .int 0] [.int 0, .int 0, .int 0] := S
  replace w := w.aload (q := 115) (v := (.ref a)) at_113 rfl rfl rfl
  replace w := w.iload (q := 117) (v := q1) at_115 rfl rfl
  replace w := w.iload (q := 119) (v := u1) at_117 rfl rfl
  replace w := w.i2d (q := 120) (z := FP.i2d u1) at_119 rfl rfl
  replace w := w.iload (q := 122) (v := v1) at_120 rfl rfl
  replace w := w.i2d (q := 123) (z := FP.i2d v1) at_122 rfl rfl
  obtain ⟨_, h133, ⟨rfl, S⟩, w⟩ := w.callV (a := a) (y := (⟨"com/example/weaverbird/weaverbird/paraphrases/SourceRows", "add", "(IDD)V"⟩ : MethodName)) (argsL := [(.int q1), (.double (FP.i2d u1)), (.double (FP.i2d v1))]) (rest := []) (own_ad l Z a0 hw _ n0 S.z0 a ph sg tg rw ep es et 1 _ _ _ _ _ _ _ 1 q1 (FP.i2d u1) (FP.i2d v1) S rfl rfl rfl rfl (by decide)) (S.1.1) (hw _ (List.mem_of_getElem? (i := 18) rfl)) (hw _ (List.mem_of_getElem? (i := 19) rfl)) (hw _ (List.mem_of_getElem? (i := 21) rfl)) (hw _ (List.mem_of_getElem? (i := 20) rfl)) (hw _ (List.mem_of_getElem? (i := 4) rfl)) (hw _ (List.mem_of_getElem? (i := 22) rfl)) (by decide) at_123 (lenOf pd_3 rfl) rfl rfl (by decide) (W := 0) (Nat.le_of_eq rfl) (by decide) (by decide) (by decide) (q := 126) rfl
  replace w := w [] rfl
  replace S : Sr Z h133 n0 a ph sg tg rw ep es et 2 [.int q0, .int q1, .int 0, .int 0, .int 0, .int 0, .int 0, .int 0, .int 0, .int 0, .int 0, .int 0, .int 0, .int 0, .int 0, .int 0] [.double (FP.i2d u0), .double (FP.i2d u1), .double 0, .double 0, .double 0, .double 0, .double 0, .double 0, .double 0, .double 0, .double 0, .double 0, .double 0, .double 0, .double 0, .double 0] [.double (FP.i2d v0), .double (FP.i2d v1), .double 0, .double 0, .double 0, .double 0, .double 0, .double 0, .double 0, .double 0, .double 0, .double 0, .double 0, .double 0, .double 0, .double 0] (fun _ => (-1 : Int32)) [.int 0, .int 0, .int 0] [.int 0, .int 0, .int 0] [.int 0, .int 0, .int 0] := S
  replace w := w.aload (q := 128) (v := (.ref a)) at_126 rfl rfl rfl
  replace w := w.iload (q := 130) (v := q2) at_128 rfl rfl
  replace w := w.iload (q := 132) (v := u2) at_130 rfl rfl
  replace w := w.i2d (q := 133) (z := FP.i2d u2) at_132 rfl rfl
  replace w := w.iload (q := 135) (v := v2) at_133 rfl rfl
  replace w := w.i2d (q := 136) (z := FP.i2d v2) at_135 rfl rfl
  obtain ⟨_, h134, ⟨rfl, S⟩, w⟩ := w.callV (a := a) (y := (⟨"com/example/weaverbird/weaverbird/paraphrases/SourceRows", "add", "(IDD)V"⟩ : MethodName)) (argsL := [(.int q2), (.double (FP.i2d u2)), (.double (FP.i2d v2))]) (rest := []) (own_ad l Z a0 hw _ n0 S.z0 a ph sg tg rw ep es et 2 _ _ _ _ _ _ _ 2 q2 (FP.i2d u2) (FP.i2d v2) S rfl rfl rfl rfl (by decide)) (S.1.1) (hw _ (List.mem_of_getElem? (i := 18) rfl)) (hw _ (List.mem_of_getElem? (i := 19) rfl)) (hw _ (List.mem_of_getElem? (i := 21) rfl)) (hw _ (List.mem_of_getElem? (i := 20) rfl)) (hw _ (List.mem_of_getElem? (i := 4) rfl)) (hw _ (List.mem_of_getElem? (i := 22) rfl)) (by decide) at_136 (lenOf pd_3 rfl) rfl rfl (by decide) (W := 0) (Nat.le_of_eq rfl) (by decide) (by decide) (by decide) (q := 139) rfl
  replace w := w [] rfl
  replace S : Sr Z h134 n0 a ph sg tg rw ep es et 3 [.int q0, .int q1, .int q2, .int 0, .int 0, .int 0, .int 0, .int 0, .int 0, .int 0, .int 0, .int 0, .int 0, .int 0, .int 0, .int 0] [.double (FP.i2d u0), .double (FP.i2d u1), .double (FP.i2d u2), .double 0, .double 0, .double 0, .double 0, .double 0, .double 0, .double 0, .double 0, .double 0, .double 0, .double 0, .double 0, .double 0] [.double (FP.i2d v0), .double (FP.i2d v1), .double (FP.i2d v2), .double 0, .double 0, .double 0, .double 0, .double 0, .double 0, .double 0, .double 0, .double 0, .double 0, .double 0, .double 0, .double 0] (fun _ => (-1 : Int32)) [.int 0, .int 0, .int 0] [.int 0, .int 0, .int 0] [.int 0, .int 0, .int 0] := S
  replace w := w.aload (q := 141) (v := (.ref a)) at_139 rfl rfl rfl
  replace w := w.aload (q := 143) (v := (.ref rw)) at_141 rfl rfl rfl
  obtain ⟨_, h135, ⟨rfl, s, a0', a1, a2, A0, A1, A2, B0, B1, B2, f', S, hf', hpat⟩, w⟩ := w.callV (a := a) (y := (⟨"com/example/weaverbird/weaverbird/paraphrases/SourceRows", "gatherByPhrase", "([I)V"⟩ : MethodName)) (argsL := [(.ref rw)]) (rest := []) (own_ga l Z a0 hw _ n0 S.z0 a ph sg tg rw ep es et m0 m1 m2 q0 q1 q2 u0 u1 u2 v0 v1 v2 [.int 0, .int 0, .int 0, .int 0, .int 0, .int 0, .int 0, .int 0, .int 0, .int 0, .int 0, .int 0, .int 0] [.double 0, .double 0, .double 0, .double 0, .double 0, .double 0, .double 0, .double 0, .double 0, .double 0, .double 0, .double 0, .double 0] [.double 0, .double 0, .double 0, .double 0, .double 0, .double 0, .double 0, .double 0, .double 0, .double 0, .double 0, .double 0, .double 0] _ _ _ _ S (fun _ => rfl) hm0 bm0 hm1 bm1 hm2 bm2 bu0 bu1 bu2 bv0 bv1 bv2) (S.1.1) (hw _ (List.mem_of_getElem? (i := 25) rfl)) (hw _ (List.mem_of_getElem? (i := 26) rfl)) (hw _ (List.mem_of_getElem? (i := 28) rfl)) (hw _ (List.mem_of_getElem? (i := 27) rfl)) (hw _ (List.mem_of_getElem? (i := 4) rfl)) (hw _ (List.mem_of_getElem? (i := 29) rfl)) (by decide) at_143 (lenOf pd_4 rfl) rfl rfl (by decide) (W := 0) (Nat.le_of_eq rfl) (by decide) (by decide) (by decide) (q := 146) rfl
  replace w := w [] rfl
  rcases hpat with hpat | hpat | hpat | hpat | hpat
  · replace w := w.iconst (q := 147) (z := (1 : Int32)) at_146 (by decide) rfl
    replace w := w.istore (q := 149) (l' := #[.val (.int x0), .val (.int x1), .val (.int x2), .val (.int x3), .val (.int q0), .val (.int q1), .val (.int q2), .val (.int u0), .val (.int v0), .val (.int u1), .val (.int v1), .val (.int u2), .val (.int v2), .val (.ref rw), .val (.ref ep), .val (.ref es), .val (.ref et), .val (.ref a), .val (.int (1 : Int32)), .unset]) at_147 rfl rfl
    replace w := w.aload (q := 151) (v := (.ref ep)) at_149 rfl rfl rfl
    replace w := w.iconst (q := 152) (z := (0 : Int32)) at_151 (by decide) rfl
    replace w := w.iload (q := 154) (v := q0) at_152 rfl rfl
    obtain ⟨h136, W137, w⟩ := w.stIl (q := 155) (S.2.2.2.2.2.1) 0 rfl (ltl rfl) (S.ge.2.2.2.2.2.1) at_154 rfl
    replace S := S.setEp W137
    replace S : Sr Z h136 n0 a ph sg tg rw ep es et s ((.int a0') :: (.int a1) :: (.int a2) :: [.int 0, .int 0, .int 0, .int 0, .int 0, .int 0, .int 0, .int 0, .int 0, .int 0, .int 0, .int 0, .int 0]) ((.double (FP.i2d A0)) :: (.double (FP.i2d A1)) :: (.double (FP.i2d A2)) :: [.double 0, .double 0, .double 0, .double 0, .double 0, .double 0, .double 0, .double 0, .double 0, .double 0, .double 0, .double 0, .double 0]) ((.double (FP.i2d B0)) :: (.double (FP.i2d B1)) :: (.double (FP.i2d B2)) :: [.double 0, .double 0, .double 0, .double 0, .double 0, .double 0, .double 0, .double 0, .double 0, .double 0, .double 0, .double 0, .double 0]) f' [(.int q0), (.int (0 : Int32)), (.int (0 : Int32))] [(.int (0 : Int32)), (.int (0 : Int32)), (.int (0 : Int32))] [(.int (0 : Int32)), (.int (0 : Int32)), (.int (0 : Int32))] := S
    replace w := w.aload (q := 157) (v := (.ref es)) at_155 rfl rfl rfl
    replace w := w.iconst (q := 158) (z := (0 : Int32)) at_157 (by decide) rfl
    replace w := w.iload (q := 160) (v := u0) at_158 rfl rfl
    replace w := w.iload (q := 162) (v := q1) at_160 rfl rfl
    replace w := w.iload (q := 164) (v := q0) at_162 rfl rfl
    obtain ⟨hc164, w⟩ := (w.icmpNe (q := 172) (q' := 167) (xi := q1.toInt) (yi := q0.toInt) at_164 rfl rfl (by decide) (by decide) rfl).resolve_left (fun g => by have hc164 := g.1; omega)
    replace w := w.iload (q := 169) (v := u1) at_167 rfl rfl
    replace w := w.goto (q := 173) at_169 (by decide) (by decide)
    obtain ⟨z138, hz138⟩ : ∃ z : Int32, u0 + u1 = z := ⟨_, rfl⟩
    replace w := w.iadd (q := 174) at_173 hz138 rfl
    have fz138 := own_add hz138 (by omega) (by omega) (by omega) (by omega)
    replace w := w.iload (q := 176) (v := q2) at_174 rfl rfl
    replace w := w.iload (q := 178) (v := q0) at_176 rfl rfl
    obtain ⟨hc178, w⟩ := (w.icmpNe (q := 186) (q' := 181) (xi := q2.toInt) (yi := q0.toInt) at_178 rfl rfl (by decide) (by decide) rfl).resolve_left (fun g => by have hc178 := g.1; omega)
    replace w := w.iload (q := 183) (v := u2) at_181 rfl rfl
    replace w := w.goto (q := 187) at_183 (by decide) (by decide)
    obtain ⟨z139, hz139⟩ : ∃ z : Int32, z138 + u2 = z := ⟨_, rfl⟩
    replace w := w.iadd (q := 188) at_187 hz139 rfl
    have fz139 := own_add hz139 (by omega) (by omega) (by omega) (by omega)
    obtain ⟨h140, W141, w⟩ := w.stIl (q := 189) (S.2.2.2.2.2.2.1) 0 rfl (ltl rfl) (S.ge.2.2.2.2.2.2.1) at_188 rfl
    replace S := S.setEs W141
    replace S : Sr Z h140 n0 a ph sg tg rw ep es et s ((.int a0') :: (.int a1) :: (.int a2) :: [.int 0, .int 0, .int 0, .int 0, .int 0, .int 0, .int 0, .int 0, .int 0, .int 0, .int 0, .int 0, .int 0]) ((.double (FP.i2d A0)) :: (.double (FP.i2d A1)) :: (.double (FP.i2d A2)) :: [.double 0, .double 0, .double 0, .double 0, .double 0, .double 0, .double 0, .double 0, .double 0, .double 0, .double 0, .double 0, .double 0]) ((.double (FP.i2d B0)) :: (.double (FP.i2d B1)) :: (.double (FP.i2d B2)) :: [.double 0, .double 0, .double 0, .double 0, .double 0, .double 0, .double 0, .double 0, .double 0, .double 0, .double 0, .double 0, .double 0]) f' [(.int q0), (.int (0 : Int32)), (.int (0 : Int32))] [(.int z139), (.int (0 : Int32)), (.int (0 : Int32))] [(.int (0 : Int32)), (.int (0 : Int32)), (.int (0 : Int32))] := S
    replace w := w.aload (q := 191) (v := (.ref et)) at_189 rfl rfl rfl
    replace w := w.iconst (q := 192) (z := (0 : Int32)) at_191 (by decide) rfl
    replace w := w.iload (q := 194) (v := v0) at_192 rfl rfl
    replace w := w.iload (q := 196) (v := q1) at_194 rfl rfl
    replace w := w.iload (q := 198) (v := q0) at_196 rfl rfl
    obtain ⟨hc198, w⟩ := (w.icmpNe (q := 206) (q' := 201) (xi := q1.toInt) (yi := q0.toInt) at_198 rfl rfl (by decide) (by decide) rfl).resolve_left (fun g => by have hc198 := g.1; omega)
    replace w := w.iload (q := 203) (v := v1) at_201 rfl rfl
    replace w := w.goto (q := 207) at_203 (by decide) (by decide)
    obtain ⟨z142, hz142⟩ : ∃ z : Int32, v0 + v1 = z := ⟨_, rfl⟩
    replace w := w.iadd (q := 208) at_207 hz142 rfl
    have fz142 := own_add hz142 (by omega) (by omega) (by omega) (by omega)
    replace w := w.iload (q := 210) (v := q2) at_208 rfl rfl
    replace w := w.iload (q := 212) (v := q0) at_210 rfl rfl
    obtain ⟨hc212, w⟩ := (w.icmpNe (q := 220) (q' := 215) (xi := q2.toInt) (yi := q0.toInt) at_212 rfl rfl (by decide) (by decide) rfl).resolve_left (fun g => by have hc212 := g.1; omega)
    replace w := w.iload (q := 217) (v := v2) at_215 rfl rfl
    replace w := w.goto (q := 221) at_217 (by decide) (by decide)
    obtain ⟨z143, hz143⟩ : ∃ z : Int32, z142 + v2 = z := ⟨_, rfl⟩
    replace w := w.iadd (q := 222) at_221 hz143 rfl
    have fz143 := own_add hz143 (by omega) (by omega) (by omega) (by omega)
    obtain ⟨h144, W145, w⟩ := w.stIl (q := 223) (S.2.2.2.2.2.2.2.1) 0 rfl (ltl rfl) (S.ge.2.2.2.2.2.2.2) at_222 rfl
    replace S := S.setEt W145
    replace S : Sr Z h144 n0 a ph sg tg rw ep es et s ((.int a0') :: (.int a1) :: (.int a2) :: [.int 0, .int 0, .int 0, .int 0, .int 0, .int 0, .int 0, .int 0, .int 0, .int 0, .int 0, .int 0, .int 0]) ((.double (FP.i2d A0)) :: (.double (FP.i2d A1)) :: (.double (FP.i2d A2)) :: [.double 0, .double 0, .double 0, .double 0, .double 0, .double 0, .double 0, .double 0, .double 0, .double 0, .double 0, .double 0, .double 0]) ((.double (FP.i2d B0)) :: (.double (FP.i2d B1)) :: (.double (FP.i2d B2)) :: [.double 0, .double 0, .double 0, .double 0, .double 0, .double 0, .double 0, .double 0, .double 0, .double 0, .double 0, .double 0, .double 0]) f' [(.int q0), (.int (0 : Int32)), (.int (0 : Int32))] [(.int z139), (.int (0 : Int32)), (.int (0 : Int32))] [(.int z143), (.int (0 : Int32)), (.int (0 : Int32))] := S
    replace w := w.iload (q := 225) (v := q1) at_223 rfl rfl
    replace w := w.iload (q := 227) (v := q0) at_225 rfl rfl
    obtain ⟨hc227, w⟩ := (w.icmpEq (q := 282) (q' := 230) (xi := q1.toInt) (yi := q0.toInt) at_227 rfl rfl (by decide) (by decide) rfl).resolve_right (fun g => by have hc227 := g.1; omega)
    replace w := w.iload (q := 284) (v := q2) at_282 rfl rfl
    replace w := w.iload (q := 286) (v := q0) at_284 rfl rfl
    obtain ⟨hc286, w⟩ := (w.icmpEq (q := 320) (q' := 289) (xi := q2.toInt) (yi := q0.toInt) at_286 rfl rfl (by decide) (by decide) rfl).resolve_right (fun g => by have hc286 := g.1; omega)
    replace w := w.aload (q := 322) (v := (.ref a)) at_320 rfl rfl rfl
    obtain ⟨_, _, ⟨rfl, eh⟩, w⟩ := w.callV (a := a) (y := (⟨"com/example/weaverbird/weaverbird/paraphrases/SourceRows", "size", "()I"⟩ : MethodName)) (argsL := []) (rest := []) (own_size l Z a0 hw _ n0 S.z0 a ph sg tg rw ep es et _ _ _ _ _ _ _ _ S) (S.1.1) (hw _ (List.mem_of_getElem? (i := 30) rfl)) (hw _ (List.mem_of_getElem? (i := 31) rfl)) (hw _ (List.mem_of_getElem? (i := 33) rfl)) (hw _ (List.mem_of_getElem? (i := 32) rfl)) (hw _ (List.mem_of_getElem? (i := 4) rfl)) (hw _ (List.mem_of_getElem? (i := 34) rfl)) (by decide) at_322 (lenOf pd_5 rfl) rfl rfl (by decide) (W := 0) (Nat.le_of_eq rfl) (by decide) (by decide) (by decide) (q := 325) rfl
    rw [eh] at w
    replace w := w [(.int s)] rfl
    replace w := w.iload (q := 327) (v := (1 : Int32)) at_325 rfl rfl
    obtain ⟨hc327, w⟩ := (w.icmpNe (q := 366) (q' := 330) (xi := s.toInt) (yi := 1) at_327 rfl rfl (by decide) (by decide) rfl).resolve_left (fun g => by have hc327 := g.1; omega)
    replace w := w.aload (q := 332) (v := (.ref rw)) at_330 rfl rfl rfl
    replace w := w.iconst (q := 333) (z := (0 : Int32)) at_332 (by decide) rfl
    replace w := ldF (q := 334) (x := -1) w (S.2.2.2.2.1) 0 rfl (by decide) (hf' 0) at_333 rfl
    replace w := w.iconst (q := 335) (z := (-1 : Int32)) at_334 (by decide) rfl
    obtain ⟨-, w⟩ := (w.icmpNe (q := 366) (q' := 338) (xi := - 1) (yi := - 1) at_335 rfl rfl (by decide) (by decide) rfl).resolve_left (fun g => by have hc335 := g.1; revert hc335; decide)
    replace w := w.aload (q := 340) (v := (.ref rw)) at_338 rfl rfl rfl
    replace w := w.iconst (q := 341) (z := (1 : Int32)) at_340 (by decide) rfl
    replace w := ldF (q := 342) (x := -1) w (S.2.2.2.2.1) 1 rfl (by decide) (hf' 1) at_341 rfl
    replace w := w.iconst (q := 343) (z := (-1 : Int32)) at_342 (by decide) rfl
    obtain ⟨-, w⟩ := (w.icmpNe (q := 366) (q' := 346) (xi := - 1) (yi := - 1) at_343 rfl rfl (by decide) (by decide) rfl).resolve_left (fun g => by have hc343 := g.1; revert hc343; decide)
    replace w := w.aload (q := 348) (v := (.ref rw)) at_346 rfl rfl rfl
    replace w := w.iconst (q := 349) (z := (2 : Int32)) at_348 (by decide) rfl
    replace w := ldF (q := 350) (x := -1) w (S.2.2.2.2.1) 2 rfl (by decide) (hf' 2) at_349 rfl
    replace w := w.iconst (q := 351) (z := (-1 : Int32)) at_350 (by decide) rfl
    obtain ⟨-, w⟩ := (w.icmpNe (q := 366) (q' := 354) (xi := - 1) (yi := - 1) at_351 rfl rfl (by decide) (by decide) rfl).resolve_left (fun g => by have hc351 := g.1; revert hc351; decide)
    replace w := w.aload (q := 356) (v := (.ref rw)) at_354 rfl rfl rfl
    replace w := w.iconst (q := 357) (z := (3 : Int32)) at_356 (by decide) rfl
    replace w := ldF (q := 358) (x := -1) w (S.2.2.2.2.1) 3 rfl (by decide) (hf' 3) at_357 rfl
    replace w := w.iconst (q := 359) (z := (-1 : Int32)) at_358 (by decide) rfl
    obtain ⟨-, w⟩ := (w.icmpNe (q := 366) (q' := 362) (xi := - 1) (yi := - 1) at_359 rfl rfl (by decide) (by decide) rfl).resolve_left (fun g => by have hc359 := g.1; revert hc359; decide)
    replace w := w.iconst (q := 363) (z := (1 : Int32)) at_362 (by decide) rfl
    replace w := w.goto (q := 367) at_363 (by decide) (by decide)
    replace w := w.istore (q := 369) (l' := #[.val (.int x0), .val (.int x1), .val (.int x2), .val (.int x3), .val (.int q0), .val (.int q1), .val (.int q2), .val (.int u0), .val (.int v0), .val (.int u1), .val (.int v1), .val (.int u2), .val (.int v2), .val (.ref rw), .val (.ref ep), .val (.ref es), .val (.ref et), .val (.ref a), .val (.int (1 : Int32)), .val (.int (1 : Int32))]) at_367 rfl rfl
    replace w := w.iload (q := 371) (v := (1 : Int32)) at_369 rfl rfl
    obtain ⟨-, w⟩ := (w.ifEq (q := 393) (q' := 374) (xi := 1) at_371 rfl (by decide) (by decide) rfl).resolve_left (fun g => by have hc371 := g.1; revert hc371; decide)
    replace w := w.aload (q := 376) (v := (.ref a)) at_374 rfl rfl rfl
    replace w := w.iconst (q := 377) (z := (0 : Int32)) at_376 (by decide) rfl
    replace w := w.aload (q := 379) (v := (.ref ep)) at_377 rfl rfl rfl
    replace w := w.aload (q := 381) (v := (.ref es)) at_379 rfl rfl rfl
    replace w := w.aload (q := 383) (v := (.ref et)) at_381 rfl rfl rfl
    obtain ⟨_, _, ⟨rfl, eh⟩, w⟩ := w.callS (y := (⟨"com/example/weaverbird/weaverbird/paraphrases/SourceRowsGatherByPhrasePinLaw", "row", "(Lcom/example/weaverbird/weaverbird/paraphrases/SourceRows;I[I[I[I)Z"⟩ : MethodName)) (argsL := [(.ref a), (.int (0 : Int32)), (.ref ep), (.ref es), (.ref et)]) (rest := []) (own_row l Z a0 hw _ n0 S.z0 a ph sg tg rw ep es et _ _ _ _ _ _ _ _ 0 0 a0' A0 B0 q0 z139 z143 S rfl rfl rfl rfl rfl rfl rfl (by omega) (by omega) (by omega)) (hw _ (List.mem_of_getElem? (i := 35) rfl)) (hw _ (List.mem_of_getElem? (i := 36) rfl)) (hw _ (List.mem_of_getElem? (i := 37) rfl)) (hw _ (List.mem_of_getElem? (i := 38) rfl)) (by decide) at_383 (lenOf pd_6 rfl) rfl rfl (by decide) (W := 0) (Nat.le_of_eq rfl) (by decide) (by decide) (by decide) (q := 386) rfl
    rw [eh] at w
    replace w := w [(.int (1 : Int32))] rfl
    obtain ⟨-, w⟩ := (w.ifEq (q := 393) (q' := 389) (xi := 1) at_386 rfl (by decide) (by decide) rfl).resolve_left (fun g => by have hc386 := g.1; revert hc386; decide)
    replace w := w.iconst (q := 390) (z := (1 : Int32)) at_389 (by decide) rfl
    replace w := w.goto (q := 394) at_390 (by decide) (by decide)
    replace w := w.istore (q := 396) (l' := #[.val (.int x0), .val (.int x1), .val (.int x2), .val (.int x3), .val (.int q0), .val (.int q1), .val (.int q2), .val (.int u0), .val (.int v0), .val (.int u1), .val (.int v1), .val (.int u2), .val (.int v2), .val (.ref rw), .val (.ref ep), .val (.ref es), .val (.ref et), .val (.ref a), .val (.int (1 : Int32)), .val (.int (1 : Int32))]) at_394 rfl rfl
    replace w := w.iload (q := 398) (v := (1 : Int32)) at_396 rfl rfl
    obtain ⟨-, w⟩ := (w.ifEq (q := 426) (q' := 401) (xi := 1) at_398 rfl (by decide) (by decide) rfl).resolve_left (fun g => by have hc398 := g.1; revert hc398; decide)
    replace w := w.iload (q := 403) (v := (1 : Int32)) at_401 rfl rfl
    replace w := w.iconst (q := 404) (z := (2 : Int32)) at_403 (by decide) rfl
    obtain ⟨-, w⟩ := (w.icmpLt (q := 422) (q' := 407) (xi := 1) (yi := 2) at_404 rfl rfl (by decide) (by decide) rfl).resolve_right (fun g => by have hc404 := g.1; revert hc404; decide)
    replace w := w.iconst (q := 423) (z := (1 : Int32)) at_422 (by decide) rfl
    replace w := w.goto (q := 427) at_423 (by decide) (by decide)
    replace w := w.istore (q := 429) (l' := #[.val (.int x0), .val (.int x1), .val (.int x2), .val (.int x3), .val (.int q0), .val (.int q1), .val (.int q2), .val (.int u0), .val (.int v0), .val (.int u1), .val (.int v1), .val (.int u2), .val (.int v2), .val (.ref rw), .val (.ref ep), .val (.ref es), .val (.ref et), .val (.ref a), .val (.int (1 : Int32)), .val (.int (1 : Int32))]) at_427 rfl rfl
    replace w := w.iload (q := 431) (v := (1 : Int32)) at_429 rfl rfl
    obtain ⟨-, w⟩ := (w.ifEq (q := 459) (q' := 434) (xi := 1) at_431 rfl (by decide) (by decide) rfl).resolve_left (fun g => by have hc431 := g.1; revert hc431; decide)
    replace w := w.iload (q := 436) (v := (1 : Int32)) at_434 rfl rfl
    replace w := w.iconst (q := 437) (z := (3 : Int32)) at_436 (by decide) rfl
    obtain ⟨-, w⟩ := (w.icmpLt (q := 455) (q' := 440) (xi := 1) (yi := 3) at_437 rfl rfl (by decide) (by decide) rfl).resolve_right (fun g => by have hc437 := g.1; revert hc437; decide)
    replace w := w.iconst (q := 456) (z := (1 : Int32)) at_455 (by decide) rfl
    replace w := w.goto (q := 460) at_456 (by decide) (by decide)
    replace w := w.istore (q := 462) (l' := #[.val (.int x0), .val (.int x1), .val (.int x2), .val (.int x3), .val (.int q0), .val (.int q1), .val (.int q2), .val (.int u0), .val (.int v0), .val (.int u1), .val (.int v1), .val (.int u2), .val (.int v2), .val (.ref rw), .val (.ref ep), .val (.ref es), .val (.ref et), .val (.ref a), .val (.int (1 : Int32)), .val (.int (1 : Int32))]) at_460 rfl rfl
    replace w := w.iload (q := 464) (v := (1 : Int32)) at_462 rfl rfl
    exact w.retZ at_464 (z := 1) (by decide) rfl (by decide) (by decide)
  · replace w := w.iconst (q := 147) (z := (1 : Int32)) at_146 (by decide) rfl
    replace w := w.istore (q := 149) (l' := #[.val (.int x0), .val (.int x1), .val (.int x2), .val (.int x3), .val (.int q0), .val (.int q1), .val (.int q2), .val (.int u0), .val (.int v0), .val (.int u1), .val (.int v1), .val (.int u2), .val (.int v2), .val (.ref rw), .val (.ref ep), .val (.ref es), .val (.ref et), .val (.ref a), .val (.int (1 : Int32)), .unset]) at_147 rfl rfl
    replace w := w.aload (q := 151) (v := (.ref ep)) at_149 rfl rfl rfl
    replace w := w.iconst (q := 152) (z := (0 : Int32)) at_151 (by decide) rfl
    replace w := w.iload (q := 154) (v := q0) at_152 rfl rfl
    obtain ⟨h146, W147, w⟩ := w.stIl (q := 155) (S.2.2.2.2.2.1) 0 rfl (ltl rfl) (S.ge.2.2.2.2.2.1) at_154 rfl
    replace S := S.setEp W147
    replace S : Sr Z h146 n0 a ph sg tg rw ep es et s ((.int a0') :: (.int a1) :: (.int a2) :: [.int 0, .int 0, .int 0, .int 0, .int 0, .int 0, .int 0, .int 0, .int 0, .int 0, .int 0, .int 0, .int 0]) ((.double (FP.i2d A0)) :: (.double (FP.i2d A1)) :: (.double (FP.i2d A2)) :: [.double 0, .double 0, .double 0, .double 0, .double 0, .double 0, .double 0, .double 0, .double 0, .double 0, .double 0, .double 0, .double 0]) ((.double (FP.i2d B0)) :: (.double (FP.i2d B1)) :: (.double (FP.i2d B2)) :: [.double 0, .double 0, .double 0, .double 0, .double 0, .double 0, .double 0, .double 0, .double 0, .double 0, .double 0, .double 0, .double 0]) f' [(.int q0), (.int (0 : Int32)), (.int (0 : Int32))] [(.int (0 : Int32)), (.int (0 : Int32)), (.int (0 : Int32))] [(.int (0 : Int32)), (.int (0 : Int32)), (.int (0 : Int32))] := S
    replace w := w.aload (q := 157) (v := (.ref es)) at_155 rfl rfl rfl
    replace w := w.iconst (q := 158) (z := (0 : Int32)) at_157 (by decide) rfl
    replace w := w.iload (q := 160) (v := u0) at_158 rfl rfl
    replace w := w.iload (q := 162) (v := q1) at_160 rfl rfl
    replace w := w.iload (q := 164) (v := q0) at_162 rfl rfl
    obtain ⟨hc164, w⟩ := (w.icmpNe (q := 172) (q' := 167) (xi := q1.toInt) (yi := q0.toInt) at_164 rfl rfl (by decide) (by decide) rfl).resolve_left (fun g => by have hc164 := g.1; omega)
    replace w := w.iload (q := 169) (v := u1) at_167 rfl rfl
    replace w := w.goto (q := 173) at_169 (by decide) (by decide)
    obtain ⟨z148, hz148⟩ : ∃ z : Int32, u0 + u1 = z := ⟨_, rfl⟩
    replace w := w.iadd (q := 174) at_173 hz148 rfl
    have fz148 := own_add hz148 (by omega) (by omega) (by omega) (by omega)
    replace w := w.iload (q := 176) (v := q2) at_174 rfl rfl
    replace w := w.iload (q := 178) (v := q0) at_176 rfl rfl
    obtain ⟨hc178, w⟩ := (w.icmpNe (q := 186) (q' := 181) (xi := q2.toInt) (yi := q0.toInt) at_178 rfl rfl (by decide) (by decide) rfl).resolve_right (fun g => by have hc178 := g.1; omega)
    replace w := w.iconst (q := 187) (z := (0 : Int32)) at_186 (by decide) rfl
    obtain ⟨z149, hz149⟩ : ∃ z : Int32, z148 + (0 : Int32) = z := ⟨_, rfl⟩
    replace w := w.iadd (q := 188) at_187 hz149 rfl
    have fz149 := own_add hz149 (by omega) (by omega) (by omega) (by omega)
    obtain ⟨h150, W151, w⟩ := w.stIl (q := 189) (S.2.2.2.2.2.2.1) 0 rfl (ltl rfl) (S.ge.2.2.2.2.2.2.1) at_188 rfl
    replace S := S.setEs W151
    replace S : Sr Z h150 n0 a ph sg tg rw ep es et s ((.int a0') :: (.int a1) :: (.int a2) :: [.int 0, .int 0, .int 0, .int 0, .int 0, .int 0, .int 0, .int 0, .int 0, .int 0, .int 0, .int 0, .int 0]) ((.double (FP.i2d A0)) :: (.double (FP.i2d A1)) :: (.double (FP.i2d A2)) :: [.double 0, .double 0, .double 0, .double 0, .double 0, .double 0, .double 0, .double 0, .double 0, .double 0, .double 0, .double 0, .double 0]) ((.double (FP.i2d B0)) :: (.double (FP.i2d B1)) :: (.double (FP.i2d B2)) :: [.double 0, .double 0, .double 0, .double 0, .double 0, .double 0, .double 0, .double 0, .double 0, .double 0, .double 0, .double 0, .double 0]) f' [(.int q0), (.int (0 : Int32)), (.int (0 : Int32))] [(.int z149), (.int (0 : Int32)), (.int (0 : Int32))] [(.int (0 : Int32)), (.int (0 : Int32)), (.int (0 : Int32))] := S
    replace w := w.aload (q := 191) (v := (.ref et)) at_189 rfl rfl rfl
    replace w := w.iconst (q := 192) (z := (0 : Int32)) at_191 (by decide) rfl
    replace w := w.iload (q := 194) (v := v0) at_192 rfl rfl
    replace w := w.iload (q := 196) (v := q1) at_194 rfl rfl
    replace w := w.iload (q := 198) (v := q0) at_196 rfl rfl
    obtain ⟨hc198, w⟩ := (w.icmpNe (q := 206) (q' := 201) (xi := q1.toInt) (yi := q0.toInt) at_198 rfl rfl (by decide) (by decide) rfl).resolve_left (fun g => by have hc198 := g.1; omega)
    replace w := w.iload (q := 203) (v := v1) at_201 rfl rfl
    replace w := w.goto (q := 207) at_203 (by decide) (by decide)
    obtain ⟨z152, hz152⟩ : ∃ z : Int32, v0 + v1 = z := ⟨_, rfl⟩
    replace w := w.iadd (q := 208) at_207 hz152 rfl
    have fz152 := own_add hz152 (by omega) (by omega) (by omega) (by omega)
    replace w := w.iload (q := 210) (v := q2) at_208 rfl rfl
    replace w := w.iload (q := 212) (v := q0) at_210 rfl rfl
    obtain ⟨hc212, w⟩ := (w.icmpNe (q := 220) (q' := 215) (xi := q2.toInt) (yi := q0.toInt) at_212 rfl rfl (by decide) (by decide) rfl).resolve_right (fun g => by have hc212 := g.1; omega)
    replace w := w.iconst (q := 221) (z := (0 : Int32)) at_220 (by decide) rfl
    obtain ⟨z153, hz153⟩ : ∃ z : Int32, z152 + (0 : Int32) = z := ⟨_, rfl⟩
    replace w := w.iadd (q := 222) at_221 hz153 rfl
    have fz153 := own_add hz153 (by omega) (by omega) (by omega) (by omega)
    obtain ⟨h154, W155, w⟩ := w.stIl (q := 223) (S.2.2.2.2.2.2.2.1) 0 rfl (ltl rfl) (S.ge.2.2.2.2.2.2.2) at_222 rfl
    replace S := S.setEt W155
    replace S : Sr Z h154 n0 a ph sg tg rw ep es et s ((.int a0') :: (.int a1) :: (.int a2) :: [.int 0, .int 0, .int 0, .int 0, .int 0, .int 0, .int 0, .int 0, .int 0, .int 0, .int 0, .int 0, .int 0]) ((.double (FP.i2d A0)) :: (.double (FP.i2d A1)) :: (.double (FP.i2d A2)) :: [.double 0, .double 0, .double 0, .double 0, .double 0, .double 0, .double 0, .double 0, .double 0, .double 0, .double 0, .double 0, .double 0]) ((.double (FP.i2d B0)) :: (.double (FP.i2d B1)) :: (.double (FP.i2d B2)) :: [.double 0, .double 0, .double 0, .double 0, .double 0, .double 0, .double 0, .double 0, .double 0, .double 0, .double 0, .double 0, .double 0]) f' [(.int q0), (.int (0 : Int32)), (.int (0 : Int32))] [(.int z149), (.int (0 : Int32)), (.int (0 : Int32))] [(.int z153), (.int (0 : Int32)), (.int (0 : Int32))] := S
    replace w := w.iload (q := 225) (v := q1) at_223 rfl rfl
    replace w := w.iload (q := 227) (v := q0) at_225 rfl rfl
    obtain ⟨hc227, w⟩ := (w.icmpEq (q := 282) (q' := 230) (xi := q1.toInt) (yi := q0.toInt) at_227 rfl rfl (by decide) (by decide) rfl).resolve_right (fun g => by have hc227 := g.1; omega)
    replace w := w.iload (q := 284) (v := q2) at_282 rfl rfl
    replace w := w.iload (q := 286) (v := q0) at_284 rfl rfl
    obtain ⟨hc286, w⟩ := (w.icmpEq (q := 320) (q' := 289) (xi := q2.toInt) (yi := q0.toInt) at_286 rfl rfl (by decide) (by decide) rfl).resolve_left (fun g => by have hc286 := g.1; omega)
    replace w := w.iload (q := 291) (v := q2) at_289 rfl rfl
    replace w := w.iload (q := 293) (v := q1) at_291 rfl rfl
    obtain ⟨hc293, w⟩ := (w.icmpEq (q := 320) (q' := 296) (xi := q2.toInt) (yi := q1.toInt) at_293 rfl rfl (by decide) (by decide) rfl).resolve_left (fun g => by have hc293 := g.1; omega)
    replace w := w.aload (q := 298) (v := (.ref ep)) at_296 rfl rfl rfl
    replace w := w.iload (q := 300) (v := (1 : Int32)) at_298 rfl rfl
    replace w := w.iload (q := 302) (v := q2) at_300 rfl rfl
    obtain ⟨h156, W157, w⟩ := w.stIl (q := 303) (S.2.2.2.2.2.1) 1 rfl (ltl rfl) (S.ge.2.2.2.2.2.1) at_302 rfl
    replace S := S.setEp W157
    replace S : Sr Z h156 n0 a ph sg tg rw ep es et s ((.int a0') :: (.int a1) :: (.int a2) :: [.int 0, .int 0, .int 0, .int 0, .int 0, .int 0, .int 0, .int 0, .int 0, .int 0, .int 0, .int 0, .int 0]) ((.double (FP.i2d A0)) :: (.double (FP.i2d A1)) :: (.double (FP.i2d A2)) :: [.double 0, .double 0, .double 0, .double 0, .double 0, .double 0, .double 0, .double 0, .double 0, .double 0, .double 0, .double 0, .double 0]) ((.double (FP.i2d B0)) :: (.double (FP.i2d B1)) :: (.double (FP.i2d B2)) :: [.double 0, .double 0, .double 0, .double 0, .double 0, .double 0, .double 0, .double 0, .double 0, .double 0, .double 0, .double 0, .double 0]) f' [(.int q0), (.int q2), (.int (0 : Int32))] [(.int z149), (.int (0 : Int32)), (.int (0 : Int32))] [(.int z153), (.int (0 : Int32)), (.int (0 : Int32))] := S
    replace w := w.aload (q := 305) (v := (.ref es)) at_303 rfl rfl rfl
    replace w := w.iload (q := 307) (v := (1 : Int32)) at_305 rfl rfl
    replace w := w.iload (q := 309) (v := u2) at_307 rfl rfl
    obtain ⟨h158, W159, w⟩ := w.stIl (q := 310) (S.2.2.2.2.2.2.1) 1 rfl (ltl rfl) (S.ge.2.2.2.2.2.2.1) at_309 rfl
    replace S := S.setEs W159
    replace S : Sr Z h158 n0 a ph sg tg rw ep es et s ((.int a0') :: (.int a1) :: (.int a2) :: [.int 0, .int 0, .int 0, .int 0, .int 0, .int 0, .int 0, .int 0, .int 0, .int 0, .int 0, .int 0, .int 0]) ((.double (FP.i2d A0)) :: (.double (FP.i2d A1)) :: (.double (FP.i2d A2)) :: [.double 0, .double 0, .double 0, .double 0, .double 0, .double 0, .double 0, .double 0, .double 0, .double 0, .double 0, .double 0, .double 0]) ((.double (FP.i2d B0)) :: (.double (FP.i2d B1)) :: (.double (FP.i2d B2)) :: [.double 0, .double 0, .double 0, .double 0, .double 0, .double 0, .double 0, .double 0, .double 0, .double 0, .double 0, .double 0, .double 0]) f' [(.int q0), (.int q2), (.int (0 : Int32))] [(.int z149), (.int u2), (.int (0 : Int32))] [(.int z153), (.int (0 : Int32)), (.int (0 : Int32))] := S
    replace w := w.aload (q := 312) (v := (.ref et)) at_310 rfl rfl rfl
    replace w := w.iload (q := 314) (v := (1 : Int32)) at_312 rfl rfl
    replace w := w.iload (q := 316) (v := v2) at_314 rfl rfl
    obtain ⟨h160, W161, w⟩ := w.stIl (q := 317) (S.2.2.2.2.2.2.2.1) 1 rfl (ltl rfl) (S.ge.2.2.2.2.2.2.2) at_316 rfl
    replace S := S.setEt W161
    replace S : Sr Z h160 n0 a ph sg tg rw ep es et s ((.int a0') :: (.int a1) :: (.int a2) :: [.int 0, .int 0, .int 0, .int 0, .int 0, .int 0, .int 0, .int 0, .int 0, .int 0, .int 0, .int 0, .int 0]) ((.double (FP.i2d A0)) :: (.double (FP.i2d A1)) :: (.double (FP.i2d A2)) :: [.double 0, .double 0, .double 0, .double 0, .double 0, .double 0, .double 0, .double 0, .double 0, .double 0, .double 0, .double 0, .double 0]) ((.double (FP.i2d B0)) :: (.double (FP.i2d B1)) :: (.double (FP.i2d B2)) :: [.double 0, .double 0, .double 0, .double 0, .double 0, .double 0, .double 0, .double 0, .double 0, .double 0, .double 0, .double 0, .double 0]) f' [(.int q0), (.int q2), (.int (0 : Int32))] [(.int z149), (.int u2), (.int (0 : Int32))] [(.int z153), (.int v2), (.int (0 : Int32))] := S
    replace w := w.iinc (q := 320) (z := (2 : Int32)) (l' := #[.val (.int x0), .val (.int x1), .val (.int x2), .val (.int x3), .val (.int q0), .val (.int q1), .val (.int q2), .val (.int u0), .val (.int v0), .val (.int u1), .val (.int v1), .val (.int u2), .val (.int v2), .val (.ref rw), .val (.ref ep), .val (.ref es), .val (.ref et), .val (.ref a), .val (.int (2 : Int32)), .unset]) at_317 rfl (by decide) rfl rfl
    replace w := w.aload (q := 322) (v := (.ref a)) at_320 rfl rfl rfl
    obtain ⟨_, _, ⟨rfl, eh⟩, w⟩ := w.callV (a := a) (y := (⟨"com/example/weaverbird/weaverbird/paraphrases/SourceRows", "size", "()I"⟩ : MethodName)) (argsL := []) (rest := []) (own_size l Z a0 hw _ n0 S.z0 a ph sg tg rw ep es et _ _ _ _ _ _ _ _ S) (S.1.1) (hw _ (List.mem_of_getElem? (i := 30) rfl)) (hw _ (List.mem_of_getElem? (i := 31) rfl)) (hw _ (List.mem_of_getElem? (i := 33) rfl)) (hw _ (List.mem_of_getElem? (i := 32) rfl)) (hw _ (List.mem_of_getElem? (i := 4) rfl)) (hw _ (List.mem_of_getElem? (i := 34) rfl)) (by decide) at_322 (lenOf pd_5 rfl) rfl rfl (by decide) (W := 0) (Nat.le_of_eq rfl) (by decide) (by decide) (by decide) (q := 325) rfl
    rw [eh] at w
    replace w := w [(.int s)] rfl
    replace w := w.iload (q := 327) (v := (2 : Int32)) at_325 rfl rfl
    obtain ⟨hc327, w⟩ := (w.icmpNe (q := 366) (q' := 330) (xi := s.toInt) (yi := 2) at_327 rfl rfl (by decide) (by decide) rfl).resolve_left (fun g => by have hc327 := g.1; omega)
    replace w := w.aload (q := 332) (v := (.ref rw)) at_330 rfl rfl rfl
    replace w := w.iconst (q := 333) (z := (0 : Int32)) at_332 (by decide) rfl
    replace w := ldF (q := 334) (x := -1) w (S.2.2.2.2.1) 0 rfl (by decide) (hf' 0) at_333 rfl
    replace w := w.iconst (q := 335) (z := (-1 : Int32)) at_334 (by decide) rfl
    obtain ⟨-, w⟩ := (w.icmpNe (q := 366) (q' := 338) (xi := - 1) (yi := - 1) at_335 rfl rfl (by decide) (by decide) rfl).resolve_left (fun g => by have hc335 := g.1; revert hc335; decide)
    replace w := w.aload (q := 340) (v := (.ref rw)) at_338 rfl rfl rfl
    replace w := w.iconst (q := 341) (z := (1 : Int32)) at_340 (by decide) rfl
    replace w := ldF (q := 342) (x := -1) w (S.2.2.2.2.1) 1 rfl (by decide) (hf' 1) at_341 rfl
    replace w := w.iconst (q := 343) (z := (-1 : Int32)) at_342 (by decide) rfl
    obtain ⟨-, w⟩ := (w.icmpNe (q := 366) (q' := 346) (xi := - 1) (yi := - 1) at_343 rfl rfl (by decide) (by decide) rfl).resolve_left (fun g => by have hc343 := g.1; revert hc343; decide)
    replace w := w.aload (q := 348) (v := (.ref rw)) at_346 rfl rfl rfl
    replace w := w.iconst (q := 349) (z := (2 : Int32)) at_348 (by decide) rfl
    replace w := ldF (q := 350) (x := -1) w (S.2.2.2.2.1) 2 rfl (by decide) (hf' 2) at_349 rfl
    replace w := w.iconst (q := 351) (z := (-1 : Int32)) at_350 (by decide) rfl
    obtain ⟨-, w⟩ := (w.icmpNe (q := 366) (q' := 354) (xi := - 1) (yi := - 1) at_351 rfl rfl (by decide) (by decide) rfl).resolve_left (fun g => by have hc351 := g.1; revert hc351; decide)
    replace w := w.aload (q := 356) (v := (.ref rw)) at_354 rfl rfl rfl
    replace w := w.iconst (q := 357) (z := (3 : Int32)) at_356 (by decide) rfl
    replace w := ldF (q := 358) (x := -1) w (S.2.2.2.2.1) 3 rfl (by decide) (hf' 3) at_357 rfl
    replace w := w.iconst (q := 359) (z := (-1 : Int32)) at_358 (by decide) rfl
    obtain ⟨-, w⟩ := (w.icmpNe (q := 366) (q' := 362) (xi := - 1) (yi := - 1) at_359 rfl rfl (by decide) (by decide) rfl).resolve_left (fun g => by have hc359 := g.1; revert hc359; decide)
    replace w := w.iconst (q := 363) (z := (1 : Int32)) at_362 (by decide) rfl
    replace w := w.goto (q := 367) at_363 (by decide) (by decide)
    replace w := w.istore (q := 369) (l' := #[.val (.int x0), .val (.int x1), .val (.int x2), .val (.int x3), .val (.int q0), .val (.int q1), .val (.int q2), .val (.int u0), .val (.int v0), .val (.int u1), .val (.int v1), .val (.int u2), .val (.int v2), .val (.ref rw), .val (.ref ep), .val (.ref es), .val (.ref et), .val (.ref a), .val (.int (2 : Int32)), .val (.int (1 : Int32))]) at_367 rfl rfl
    replace w := w.iload (q := 371) (v := (1 : Int32)) at_369 rfl rfl
    obtain ⟨-, w⟩ := (w.ifEq (q := 393) (q' := 374) (xi := 1) at_371 rfl (by decide) (by decide) rfl).resolve_left (fun g => by have hc371 := g.1; revert hc371; decide)
    replace w := w.aload (q := 376) (v := (.ref a)) at_374 rfl rfl rfl
    replace w := w.iconst (q := 377) (z := (0 : Int32)) at_376 (by decide) rfl
    replace w := w.aload (q := 379) (v := (.ref ep)) at_377 rfl rfl rfl
    replace w := w.aload (q := 381) (v := (.ref es)) at_379 rfl rfl rfl
    replace w := w.aload (q := 383) (v := (.ref et)) at_381 rfl rfl rfl
    obtain ⟨_, _, ⟨rfl, eh⟩, w⟩ := w.callS (y := (⟨"com/example/weaverbird/weaverbird/paraphrases/SourceRowsGatherByPhrasePinLaw", "row", "(Lcom/example/weaverbird/weaverbird/paraphrases/SourceRows;I[I[I[I)Z"⟩ : MethodName)) (argsL := [(.ref a), (.int (0 : Int32)), (.ref ep), (.ref es), (.ref et)]) (rest := []) (own_row l Z a0 hw _ n0 S.z0 a ph sg tg rw ep es et _ _ _ _ _ _ _ _ 0 0 a0' A0 B0 q0 z149 z153 S rfl rfl rfl rfl rfl rfl rfl (by omega) (by omega) (by omega)) (hw _ (List.mem_of_getElem? (i := 35) rfl)) (hw _ (List.mem_of_getElem? (i := 36) rfl)) (hw _ (List.mem_of_getElem? (i := 37) rfl)) (hw _ (List.mem_of_getElem? (i := 38) rfl)) (by decide) at_383 (lenOf pd_6 rfl) rfl rfl (by decide) (W := 0) (Nat.le_of_eq rfl) (by decide) (by decide) (by decide) (q := 386) rfl
    rw [eh] at w
    replace w := w [(.int (1 : Int32))] rfl
    obtain ⟨-, w⟩ := (w.ifEq (q := 393) (q' := 389) (xi := 1) at_386 rfl (by decide) (by decide) rfl).resolve_left (fun g => by have hc386 := g.1; revert hc386; decide)
    replace w := w.iconst (q := 390) (z := (1 : Int32)) at_389 (by decide) rfl
    replace w := w.goto (q := 394) at_390 (by decide) (by decide)
    replace w := w.istore (q := 396) (l' := #[.val (.int x0), .val (.int x1), .val (.int x2), .val (.int x3), .val (.int q0), .val (.int q1), .val (.int q2), .val (.int u0), .val (.int v0), .val (.int u1), .val (.int v1), .val (.int u2), .val (.int v2), .val (.ref rw), .val (.ref ep), .val (.ref es), .val (.ref et), .val (.ref a), .val (.int (2 : Int32)), .val (.int (1 : Int32))]) at_394 rfl rfl
    replace w := w.iload (q := 398) (v := (1 : Int32)) at_396 rfl rfl
    obtain ⟨-, w⟩ := (w.ifEq (q := 426) (q' := 401) (xi := 1) at_398 rfl (by decide) (by decide) rfl).resolve_left (fun g => by have hc398 := g.1; revert hc398; decide)
    replace w := w.iload (q := 403) (v := (2 : Int32)) at_401 rfl rfl
    replace w := w.iconst (q := 404) (z := (2 : Int32)) at_403 (by decide) rfl
    obtain ⟨-, w⟩ := (w.icmpLt (q := 422) (q' := 407) (xi := 2) (yi := 2) at_404 rfl rfl (by decide) (by decide) rfl).resolve_left (fun g => by have hc404 := g.1; revert hc404; decide)
    replace w := w.aload (q := 409) (v := (.ref a)) at_407 rfl rfl rfl
    replace w := w.iconst (q := 410) (z := (1 : Int32)) at_409 (by decide) rfl
    replace w := w.aload (q := 412) (v := (.ref ep)) at_410 rfl rfl rfl
    replace w := w.aload (q := 414) (v := (.ref es)) at_412 rfl rfl rfl
    replace w := w.aload (q := 416) (v := (.ref et)) at_414 rfl rfl rfl
    obtain ⟨_, _, ⟨rfl, eh⟩, w⟩ := w.callS (y := (⟨"com/example/weaverbird/weaverbird/paraphrases/SourceRowsGatherByPhrasePinLaw", "row", "(Lcom/example/weaverbird/weaverbird/paraphrases/SourceRows;I[I[I[I)Z"⟩ : MethodName)) (argsL := [(.ref a), (.int (1 : Int32)), (.ref ep), (.ref es), (.ref et)]) (rest := []) (own_row l Z a0 hw _ n0 S.z0 a ph sg tg rw ep es et _ _ _ _ _ _ _ _ 1 1 a1 A1 B1 q2 u2 v2 S rfl rfl rfl rfl rfl rfl rfl (by omega) (by omega) (by omega)) (hw _ (List.mem_of_getElem? (i := 35) rfl)) (hw _ (List.mem_of_getElem? (i := 36) rfl)) (hw _ (List.mem_of_getElem? (i := 37) rfl)) (hw _ (List.mem_of_getElem? (i := 38) rfl)) (by decide) at_416 (lenOf pd_6 rfl) rfl rfl (by decide) (W := 0) (Nat.le_of_eq rfl) (by decide) (by decide) (by decide) (q := 419) rfl
    rw [eh] at w
    replace w := w [(.int (1 : Int32))] rfl
    obtain ⟨-, w⟩ := (w.ifEq (q := 426) (q' := 422) (xi := 1) at_419 rfl (by decide) (by decide) rfl).resolve_left (fun g => by have hc419 := g.1; revert hc419; decide)
    replace w := w.iconst (q := 423) (z := (1 : Int32)) at_422 (by decide) rfl
    replace w := w.goto (q := 427) at_423 (by decide) (by decide)
    replace w := w.istore (q := 429) (l' := #[.val (.int x0), .val (.int x1), .val (.int x2), .val (.int x3), .val (.int q0), .val (.int q1), .val (.int q2), .val (.int u0), .val (.int v0), .val (.int u1), .val (.int v1), .val (.int u2), .val (.int v2), .val (.ref rw), .val (.ref ep), .val (.ref es), .val (.ref et), .val (.ref a), .val (.int (2 : Int32)), .val (.int (1 : Int32))]) at_427 rfl rfl
    replace w := w.iload (q := 431) (v := (1 : Int32)) at_429 rfl rfl
    obtain ⟨-, w⟩ := (w.ifEq (q := 459) (q' := 434) (xi := 1) at_431 rfl (by decide) (by decide) rfl).resolve_left (fun g => by have hc431 := g.1; revert hc431; decide)
    replace w := w.iload (q := 436) (v := (2 : Int32)) at_434 rfl rfl
    replace w := w.iconst (q := 437) (z := (3 : Int32)) at_436 (by decide) rfl
    obtain ⟨-, w⟩ := (w.icmpLt (q := 455) (q' := 440) (xi := 2) (yi := 3) at_437 rfl rfl (by decide) (by decide) rfl).resolve_right (fun g => by have hc437 := g.1; revert hc437; decide)
    replace w := w.iconst (q := 456) (z := (1 : Int32)) at_455 (by decide) rfl
    replace w := w.goto (q := 460) at_456 (by decide) (by decide)
    replace w := w.istore (q := 462) (l' := #[.val (.int x0), .val (.int x1), .val (.int x2), .val (.int x3), .val (.int q0), .val (.int q1), .val (.int q2), .val (.int u0), .val (.int v0), .val (.int u1), .val (.int v1), .val (.int u2), .val (.int v2), .val (.ref rw), .val (.ref ep), .val (.ref es), .val (.ref et), .val (.ref a), .val (.int (2 : Int32)), .val (.int (1 : Int32))]) at_460 rfl rfl
    replace w := w.iload (q := 464) (v := (1 : Int32)) at_462 rfl rfl
    exact w.retZ at_464 (z := 1) (by decide) rfl (by decide) (by decide)
  · replace w := w.iconst (q := 147) (z := (1 : Int32)) at_146 (by decide) rfl
    replace w := w.istore (q := 149) (l' := #[.val (.int x0), .val (.int x1), .val (.int x2), .val (.int x3), .val (.int q0), .val (.int q1), .val (.int q2), .val (.int u0), .val (.int v0), .val (.int u1), .val (.int v1), .val (.int u2), .val (.int v2), .val (.ref rw), .val (.ref ep), .val (.ref es), .val (.ref et), .val (.ref a), .val (.int (1 : Int32)), .unset]) at_147 rfl rfl
    replace w := w.aload (q := 151) (v := (.ref ep)) at_149 rfl rfl rfl
    replace w := w.iconst (q := 152) (z := (0 : Int32)) at_151 (by decide) rfl
    replace w := w.iload (q := 154) (v := q0) at_152 rfl rfl
    obtain ⟨h162, W163, w⟩ := w.stIl (q := 155) (S.2.2.2.2.2.1) 0 rfl (ltl rfl) (S.ge.2.2.2.2.2.1) at_154 rfl
    replace S := S.setEp W163
    replace S : Sr Z h162 n0 a ph sg tg rw ep es et s ((.int a0') :: (.int a1) :: (.int a2) :: [.int 0, .int 0, .int 0, .int 0, .int 0, .int 0, .int 0, .int 0, .int 0, .int 0, .int 0, .int 0, .int 0]) ((.double (FP.i2d A0)) :: (.double (FP.i2d A1)) :: (.double (FP.i2d A2)) :: [.double 0, .double 0, .double 0, .double 0, .double 0, .double 0, .double 0, .double 0, .double 0, .double 0, .double 0, .double 0, .double 0]) ((.double (FP.i2d B0)) :: (.double (FP.i2d B1)) :: (.double (FP.i2d B2)) :: [.double 0, .double 0, .double 0, .double 0, .double 0, .double 0, .double 0, .double 0, .double 0, .double 0, .double 0, .double 0, .double 0]) f' [(.int q0), (.int (0 : Int32)), (.int (0 : Int32))] [(.int (0 : Int32)), (.int (0 : Int32)), (.int (0 : Int32))] [(.int (0 : Int32)), (.int (0 : Int32)), (.int (0 : Int32))] := S
    replace w := w.aload (q := 157) (v := (.ref es)) at_155 rfl rfl rfl
    replace w := w.iconst (q := 158) (z := (0 : Int32)) at_157 (by decide) rfl
    replace w := w.iload (q := 160) (v := u0) at_158 rfl rfl
    replace w := w.iload (q := 162) (v := q1) at_160 rfl rfl
    replace w := w.iload (q := 164) (v := q0) at_162 rfl rfl
    obtain ⟨hc164, w⟩ := (w.icmpNe (q := 172) (q' := 167) (xi := q1.toInt) (yi := q0.toInt) at_164 rfl rfl (by decide) (by decide) rfl).resolve_right (fun g => by have hc164 := g.1; omega)
    replace w := w.iconst (q := 173) (z := (0 : Int32)) at_172 (by decide) rfl
    obtain ⟨z164, hz164⟩ : ∃ z : Int32, u0 + (0 : Int32) = z := ⟨_, rfl⟩
    replace w := w.iadd (q := 174) at_173 hz164 rfl
    have fz164 := own_add hz164 (by omega) (by omega) (by omega) (by omega)
    replace w := w.iload (q := 176) (v := q2) at_174 rfl rfl
    replace w := w.iload (q := 178) (v := q0) at_176 rfl rfl
    obtain ⟨hc178, w⟩ := (w.icmpNe (q := 186) (q' := 181) (xi := q2.toInt) (yi := q0.toInt) at_178 rfl rfl (by decide) (by decide) rfl).resolve_left (fun g => by have hc178 := g.1; omega)
    replace w := w.iload (q := 183) (v := u2) at_181 rfl rfl
    replace w := w.goto (q := 187) at_183 (by decide) (by decide)
    obtain ⟨z165, hz165⟩ : ∃ z : Int32, z164 + u2 = z := ⟨_, rfl⟩
    replace w := w.iadd (q := 188) at_187 hz165 rfl
    have fz165 := own_add hz165 (by omega) (by omega) (by omega) (by omega)
    obtain ⟨h166, W167, w⟩ := w.stIl (q := 189) (S.2.2.2.2.2.2.1) 0 rfl (ltl rfl) (S.ge.2.2.2.2.2.2.1) at_188 rfl
    replace S := S.setEs W167
    replace S : Sr Z h166 n0 a ph sg tg rw ep es et s ((.int a0') :: (.int a1) :: (.int a2) :: [.int 0, .int 0, .int 0, .int 0, .int 0, .int 0, .int 0, .int 0, .int 0, .int 0, .int 0, .int 0, .int 0]) ((.double (FP.i2d A0)) :: (.double (FP.i2d A1)) :: (.double (FP.i2d A2)) :: [.double 0, .double 0, .double 0, .double 0, .double 0, .double 0, .double 0, .double 0, .double 0, .double 0, .double 0, .double 0, .double 0]) ((.double (FP.i2d B0)) :: (.double (FP.i2d B1)) :: (.double (FP.i2d B2)) :: [.double 0, .double 0, .double 0, .double 0, .double 0, .double 0, .double 0, .double 0, .double 0, .double 0, .double 0, .double 0, .double 0]) f' [(.int q0), (.int (0 : Int32)), (.int (0 : Int32))] [(.int z165), (.int (0 : Int32)), (.int (0 : Int32))] [(.int (0 : Int32)), (.int (0 : Int32)), (.int (0 : Int32))] := S
    replace w := w.aload (q := 191) (v := (.ref et)) at_189 rfl rfl rfl
    replace w := w.iconst (q := 192) (z := (0 : Int32)) at_191 (by decide) rfl
    replace w := w.iload (q := 194) (v := v0) at_192 rfl rfl
    replace w := w.iload (q := 196) (v := q1) at_194 rfl rfl
    replace w := w.iload (q := 198) (v := q0) at_196 rfl rfl
    obtain ⟨hc198, w⟩ := (w.icmpNe (q := 206) (q' := 201) (xi := q1.toInt) (yi := q0.toInt) at_198 rfl rfl (by decide) (by decide) rfl).resolve_right (fun g => by have hc198 := g.1; omega)
    replace w := w.iconst (q := 207) (z := (0 : Int32)) at_206 (by decide) rfl
    obtain ⟨z168, hz168⟩ : ∃ z : Int32, v0 + (0 : Int32) = z := ⟨_, rfl⟩
    replace w := w.iadd (q := 208) at_207 hz168 rfl
    have fz168 := own_add hz168 (by omega) (by omega) (by omega) (by omega)
    replace w := w.iload (q := 210) (v := q2) at_208 rfl rfl
    replace w := w.iload (q := 212) (v := q0) at_210 rfl rfl
    obtain ⟨hc212, w⟩ := (w.icmpNe (q := 220) (q' := 215) (xi := q2.toInt) (yi := q0.toInt) at_212 rfl rfl (by decide) (by decide) rfl).resolve_left (fun g => by have hc212 := g.1; omega)
    replace w := w.iload (q := 217) (v := v2) at_215 rfl rfl
    replace w := w.goto (q := 221) at_217 (by decide) (by decide)
    obtain ⟨z169, hz169⟩ : ∃ z : Int32, z168 + v2 = z := ⟨_, rfl⟩
    replace w := w.iadd (q := 222) at_221 hz169 rfl
    have fz169 := own_add hz169 (by omega) (by omega) (by omega) (by omega)
    obtain ⟨h170, W171, w⟩ := w.stIl (q := 223) (S.2.2.2.2.2.2.2.1) 0 rfl (ltl rfl) (S.ge.2.2.2.2.2.2.2) at_222 rfl
    replace S := S.setEt W171
    replace S : Sr Z h170 n0 a ph sg tg rw ep es et s ((.int a0') :: (.int a1) :: (.int a2) :: [.int 0, .int 0, .int 0, .int 0, .int 0, .int 0, .int 0, .int 0, .int 0, .int 0, .int 0, .int 0, .int 0]) ((.double (FP.i2d A0)) :: (.double (FP.i2d A1)) :: (.double (FP.i2d A2)) :: [.double 0, .double 0, .double 0, .double 0, .double 0, .double 0, .double 0, .double 0, .double 0, .double 0, .double 0, .double 0, .double 0]) ((.double (FP.i2d B0)) :: (.double (FP.i2d B1)) :: (.double (FP.i2d B2)) :: [.double 0, .double 0, .double 0, .double 0, .double 0, .double 0, .double 0, .double 0, .double 0, .double 0, .double 0, .double 0, .double 0]) f' [(.int q0), (.int (0 : Int32)), (.int (0 : Int32))] [(.int z165), (.int (0 : Int32)), (.int (0 : Int32))] [(.int z169), (.int (0 : Int32)), (.int (0 : Int32))] := S
    replace w := w.iload (q := 225) (v := q1) at_223 rfl rfl
    replace w := w.iload (q := 227) (v := q0) at_225 rfl rfl
    obtain ⟨hc227, w⟩ := (w.icmpEq (q := 282) (q' := 230) (xi := q1.toInt) (yi := q0.toInt) at_227 rfl rfl (by decide) (by decide) rfl).resolve_left (fun g => by have hc227 := g.1; omega)
    replace w := w.aload (q := 232) (v := (.ref ep)) at_230 rfl rfl rfl
    replace w := w.iload (q := 234) (v := (1 : Int32)) at_232 rfl rfl
    replace w := w.iload (q := 236) (v := q1) at_234 rfl rfl
    obtain ⟨h172, W173, w⟩ := w.stIl (q := 237) (S.2.2.2.2.2.1) 1 rfl (ltl rfl) (S.ge.2.2.2.2.2.1) at_236 rfl
    replace S := S.setEp W173
    replace S : Sr Z h172 n0 a ph sg tg rw ep es et s ((.int a0') :: (.int a1) :: (.int a2) :: [.int 0, .int 0, .int 0, .int 0, .int 0, .int 0, .int 0, .int 0, .int 0, .int 0, .int 0, .int 0, .int 0]) ((.double (FP.i2d A0)) :: (.double (FP.i2d A1)) :: (.double (FP.i2d A2)) :: [.double 0, .double 0, .double 0, .double 0, .double 0, .double 0, .double 0, .double 0, .double 0, .double 0, .double 0, .double 0, .double 0]) ((.double (FP.i2d B0)) :: (.double (FP.i2d B1)) :: (.double (FP.i2d B2)) :: [.double 0, .double 0, .double 0, .double 0, .double 0, .double 0, .double 0, .double 0, .double 0, .double 0, .double 0, .double 0, .double 0]) f' [(.int q0), (.int q1), (.int (0 : Int32))] [(.int z165), (.int (0 : Int32)), (.int (0 : Int32))] [(.int z169), (.int (0 : Int32)), (.int (0 : Int32))] := S
    replace w := w.aload (q := 239) (v := (.ref es)) at_237 rfl rfl rfl
    replace w := w.iload (q := 241) (v := (1 : Int32)) at_239 rfl rfl
    replace w := w.iload (q := 243) (v := u1) at_241 rfl rfl
    replace w := w.iload (q := 245) (v := q2) at_243 rfl rfl
    replace w := w.iload (q := 247) (v := q1) at_245 rfl rfl
    obtain ⟨hc247, w⟩ := (w.icmpNe (q := 255) (q' := 250) (xi := q2.toInt) (yi := q1.toInt) at_247 rfl rfl (by decide) (by decide) rfl).resolve_right (fun g => by have hc247 := g.1; omega)
    replace w := w.iconst (q := 256) (z := (0 : Int32)) at_255 (by decide) rfl
    obtain ⟨z174, hz174⟩ : ∃ z : Int32, u1 + (0 : Int32) = z := ⟨_, rfl⟩
    replace w := w.iadd (q := 257) at_256 hz174 rfl
    have fz174 := own_add hz174 (by omega) (by omega) (by omega) (by omega)
    obtain ⟨h175, W176, w⟩ := w.stIl (q := 258) (S.2.2.2.2.2.2.1) 1 rfl (ltl rfl) (S.ge.2.2.2.2.2.2.1) at_257 rfl
    replace S := S.setEs W176
    replace S : Sr Z h175 n0 a ph sg tg rw ep es et s ((.int a0') :: (.int a1) :: (.int a2) :: [.int 0, .int 0, .int 0, .int 0, .int 0, .int 0, .int 0, .int 0, .int 0, .int 0, .int 0, .int 0, .int 0]) ((.double (FP.i2d A0)) :: (.double (FP.i2d A1)) :: (.double (FP.i2d A2)) :: [.double 0, .double 0, .double 0, .double 0, .double 0, .double 0, .double 0, .double 0, .double 0, .double 0, .double 0, .double 0, .double 0]) ((.double (FP.i2d B0)) :: (.double (FP.i2d B1)) :: (.double (FP.i2d B2)) :: [.double 0, .double 0, .double 0, .double 0, .double 0, .double 0, .double 0, .double 0, .double 0, .double 0, .double 0, .double 0, .double 0]) f' [(.int q0), (.int q1), (.int (0 : Int32))] [(.int z165), (.int z174), (.int (0 : Int32))] [(.int z169), (.int (0 : Int32)), (.int (0 : Int32))] := S
    replace w := w.aload (q := 260) (v := (.ref et)) at_258 rfl rfl rfl
    replace w := w.iload (q := 262) (v := (1 : Int32)) at_260 rfl rfl
    replace w := w.iload (q := 264) (v := v1) at_262 rfl rfl
    replace w := w.iload (q := 266) (v := q2) at_264 rfl rfl
    replace w := w.iload (q := 268) (v := q1) at_266 rfl rfl
    obtain ⟨hc268, w⟩ := (w.icmpNe (q := 276) (q' := 271) (xi := q2.toInt) (yi := q1.toInt) at_268 rfl rfl (by decide) (by decide) rfl).resolve_right (fun g => by have hc268 := g.1; omega)
    replace w := w.iconst (q := 277) (z := (0 : Int32)) at_276 (by decide) rfl
    obtain ⟨z177, hz177⟩ : ∃ z : Int32, v1 + (0 : Int32) = z := ⟨_, rfl⟩
    replace w := w.iadd (q := 278) at_277 hz177 rfl
    have fz177 := own_add hz177 (by omega) (by omega) (by omega) (by omega)
    obtain ⟨h178, W179, w⟩ := w.stIl (q := 279) (S.2.2.2.2.2.2.2.1) 1 rfl (ltl rfl) (S.ge.2.2.2.2.2.2.2) at_278 rfl
    replace S := S.setEt W179
    replace S : Sr Z h178 n0 a ph sg tg rw ep es et s ((.int a0') :: (.int a1) :: (.int a2) :: [.int 0, .int 0, .int 0, .int 0, .int 0, .int 0, .int 0, .int 0, .int 0, .int 0, .int 0, .int 0, .int 0]) ((.double (FP.i2d A0)) :: (.double (FP.i2d A1)) :: (.double (FP.i2d A2)) :: [.double 0, .double 0, .double 0, .double 0, .double 0, .double 0, .double 0, .double 0, .double 0, .double 0, .double 0, .double 0, .double 0]) ((.double (FP.i2d B0)) :: (.double (FP.i2d B1)) :: (.double (FP.i2d B2)) :: [.double 0, .double 0, .double 0, .double 0, .double 0, .double 0, .double 0, .double 0, .double 0, .double 0, .double 0, .double 0, .double 0]) f' [(.int q0), (.int q1), (.int (0 : Int32))] [(.int z165), (.int z174), (.int (0 : Int32))] [(.int z169), (.int z177), (.int (0 : Int32))] := S
    replace w := w.iinc (q := 282) (z := (2 : Int32)) (l' := #[.val (.int x0), .val (.int x1), .val (.int x2), .val (.int x3), .val (.int q0), .val (.int q1), .val (.int q2), .val (.int u0), .val (.int v0), .val (.int u1), .val (.int v1), .val (.int u2), .val (.int v2), .val (.ref rw), .val (.ref ep), .val (.ref es), .val (.ref et), .val (.ref a), .val (.int (2 : Int32)), .unset]) at_279 rfl (by decide) rfl rfl
    replace w := w.iload (q := 284) (v := q2) at_282 rfl rfl
    replace w := w.iload (q := 286) (v := q0) at_284 rfl rfl
    obtain ⟨hc286, w⟩ := (w.icmpEq (q := 320) (q' := 289) (xi := q2.toInt) (yi := q0.toInt) at_286 rfl rfl (by decide) (by decide) rfl).resolve_right (fun g => by have hc286 := g.1; omega)
    replace w := w.aload (q := 322) (v := (.ref a)) at_320 rfl rfl rfl
    obtain ⟨_, _, ⟨rfl, eh⟩, w⟩ := w.callV (a := a) (y := (⟨"com/example/weaverbird/weaverbird/paraphrases/SourceRows", "size", "()I"⟩ : MethodName)) (argsL := []) (rest := []) (own_size l Z a0 hw _ n0 S.z0 a ph sg tg rw ep es et _ _ _ _ _ _ _ _ S) (S.1.1) (hw _ (List.mem_of_getElem? (i := 30) rfl)) (hw _ (List.mem_of_getElem? (i := 31) rfl)) (hw _ (List.mem_of_getElem? (i := 33) rfl)) (hw _ (List.mem_of_getElem? (i := 32) rfl)) (hw _ (List.mem_of_getElem? (i := 4) rfl)) (hw _ (List.mem_of_getElem? (i := 34) rfl)) (by decide) at_322 (lenOf pd_5 rfl) rfl rfl (by decide) (W := 0) (Nat.le_of_eq rfl) (by decide) (by decide) (by decide) (q := 325) rfl
    rw [eh] at w
    replace w := w [(.int s)] rfl
    replace w := w.iload (q := 327) (v := (2 : Int32)) at_325 rfl rfl
    obtain ⟨hc327, w⟩ := (w.icmpNe (q := 366) (q' := 330) (xi := s.toInt) (yi := 2) at_327 rfl rfl (by decide) (by decide) rfl).resolve_left (fun g => by have hc327 := g.1; omega)
    replace w := w.aload (q := 332) (v := (.ref rw)) at_330 rfl rfl rfl
    replace w := w.iconst (q := 333) (z := (0 : Int32)) at_332 (by decide) rfl
    replace w := ldF (q := 334) (x := -1) w (S.2.2.2.2.1) 0 rfl (by decide) (hf' 0) at_333 rfl
    replace w := w.iconst (q := 335) (z := (-1 : Int32)) at_334 (by decide) rfl
    obtain ⟨-, w⟩ := (w.icmpNe (q := 366) (q' := 338) (xi := - 1) (yi := - 1) at_335 rfl rfl (by decide) (by decide) rfl).resolve_left (fun g => by have hc335 := g.1; revert hc335; decide)
    replace w := w.aload (q := 340) (v := (.ref rw)) at_338 rfl rfl rfl
    replace w := w.iconst (q := 341) (z := (1 : Int32)) at_340 (by decide) rfl
    replace w := ldF (q := 342) (x := -1) w (S.2.2.2.2.1) 1 rfl (by decide) (hf' 1) at_341 rfl
    replace w := w.iconst (q := 343) (z := (-1 : Int32)) at_342 (by decide) rfl
    obtain ⟨-, w⟩ := (w.icmpNe (q := 366) (q' := 346) (xi := - 1) (yi := - 1) at_343 rfl rfl (by decide) (by decide) rfl).resolve_left (fun g => by have hc343 := g.1; revert hc343; decide)
    replace w := w.aload (q := 348) (v := (.ref rw)) at_346 rfl rfl rfl
    replace w := w.iconst (q := 349) (z := (2 : Int32)) at_348 (by decide) rfl
    replace w := ldF (q := 350) (x := -1) w (S.2.2.2.2.1) 2 rfl (by decide) (hf' 2) at_349 rfl
    replace w := w.iconst (q := 351) (z := (-1 : Int32)) at_350 (by decide) rfl
    obtain ⟨-, w⟩ := (w.icmpNe (q := 366) (q' := 354) (xi := - 1) (yi := - 1) at_351 rfl rfl (by decide) (by decide) rfl).resolve_left (fun g => by have hc351 := g.1; revert hc351; decide)
    replace w := w.aload (q := 356) (v := (.ref rw)) at_354 rfl rfl rfl
    replace w := w.iconst (q := 357) (z := (3 : Int32)) at_356 (by decide) rfl
    replace w := ldF (q := 358) (x := -1) w (S.2.2.2.2.1) 3 rfl (by decide) (hf' 3) at_357 rfl
    replace w := w.iconst (q := 359) (z := (-1 : Int32)) at_358 (by decide) rfl
    obtain ⟨-, w⟩ := (w.icmpNe (q := 366) (q' := 362) (xi := - 1) (yi := - 1) at_359 rfl rfl (by decide) (by decide) rfl).resolve_left (fun g => by have hc359 := g.1; revert hc359; decide)
    replace w := w.iconst (q := 363) (z := (1 : Int32)) at_362 (by decide) rfl
    replace w := w.goto (q := 367) at_363 (by decide) (by decide)
    replace w := w.istore (q := 369) (l' := #[.val (.int x0), .val (.int x1), .val (.int x2), .val (.int x3), .val (.int q0), .val (.int q1), .val (.int q2), .val (.int u0), .val (.int v0), .val (.int u1), .val (.int v1), .val (.int u2), .val (.int v2), .val (.ref rw), .val (.ref ep), .val (.ref es), .val (.ref et), .val (.ref a), .val (.int (2 : Int32)), .val (.int (1 : Int32))]) at_367 rfl rfl
    replace w := w.iload (q := 371) (v := (1 : Int32)) at_369 rfl rfl
    obtain ⟨-, w⟩ := (w.ifEq (q := 393) (q' := 374) (xi := 1) at_371 rfl (by decide) (by decide) rfl).resolve_left (fun g => by have hc371 := g.1; revert hc371; decide)
    replace w := w.aload (q := 376) (v := (.ref a)) at_374 rfl rfl rfl
    replace w := w.iconst (q := 377) (z := (0 : Int32)) at_376 (by decide) rfl
    replace w := w.aload (q := 379) (v := (.ref ep)) at_377 rfl rfl rfl
    replace w := w.aload (q := 381) (v := (.ref es)) at_379 rfl rfl rfl
    replace w := w.aload (q := 383) (v := (.ref et)) at_381 rfl rfl rfl
    obtain ⟨_, _, ⟨rfl, eh⟩, w⟩ := w.callS (y := (⟨"com/example/weaverbird/weaverbird/paraphrases/SourceRowsGatherByPhrasePinLaw", "row", "(Lcom/example/weaverbird/weaverbird/paraphrases/SourceRows;I[I[I[I)Z"⟩ : MethodName)) (argsL := [(.ref a), (.int (0 : Int32)), (.ref ep), (.ref es), (.ref et)]) (rest := []) (own_row l Z a0 hw _ n0 S.z0 a ph sg tg rw ep es et _ _ _ _ _ _ _ _ 0 0 a0' A0 B0 q0 z165 z169 S rfl rfl rfl rfl rfl rfl rfl (by omega) (by omega) (by omega)) (hw _ (List.mem_of_getElem? (i := 35) rfl)) (hw _ (List.mem_of_getElem? (i := 36) rfl)) (hw _ (List.mem_of_getElem? (i := 37) rfl)) (hw _ (List.mem_of_getElem? (i := 38) rfl)) (by decide) at_383 (lenOf pd_6 rfl) rfl rfl (by decide) (W := 0) (Nat.le_of_eq rfl) (by decide) (by decide) (by decide) (q := 386) rfl
    rw [eh] at w
    replace w := w [(.int (1 : Int32))] rfl
    obtain ⟨-, w⟩ := (w.ifEq (q := 393) (q' := 389) (xi := 1) at_386 rfl (by decide) (by decide) rfl).resolve_left (fun g => by have hc386 := g.1; revert hc386; decide)
    replace w := w.iconst (q := 390) (z := (1 : Int32)) at_389 (by decide) rfl
    replace w := w.goto (q := 394) at_390 (by decide) (by decide)
    replace w := w.istore (q := 396) (l' := #[.val (.int x0), .val (.int x1), .val (.int x2), .val (.int x3), .val (.int q0), .val (.int q1), .val (.int q2), .val (.int u0), .val (.int v0), .val (.int u1), .val (.int v1), .val (.int u2), .val (.int v2), .val (.ref rw), .val (.ref ep), .val (.ref es), .val (.ref et), .val (.ref a), .val (.int (2 : Int32)), .val (.int (1 : Int32))]) at_394 rfl rfl
    replace w := w.iload (q := 398) (v := (1 : Int32)) at_396 rfl rfl
    obtain ⟨-, w⟩ := (w.ifEq (q := 426) (q' := 401) (xi := 1) at_398 rfl (by decide) (by decide) rfl).resolve_left (fun g => by have hc398 := g.1; revert hc398; decide)
    replace w := w.iload (q := 403) (v := (2 : Int32)) at_401 rfl rfl
    replace w := w.iconst (q := 404) (z := (2 : Int32)) at_403 (by decide) rfl
    obtain ⟨-, w⟩ := (w.icmpLt (q := 422) (q' := 407) (xi := 2) (yi := 2) at_404 rfl rfl (by decide) (by decide) rfl).resolve_left (fun g => by have hc404 := g.1; revert hc404; decide)
    replace w := w.aload (q := 409) (v := (.ref a)) at_407 rfl rfl rfl
    replace w := w.iconst (q := 410) (z := (1 : Int32)) at_409 (by decide) rfl
    replace w := w.aload (q := 412) (v := (.ref ep)) at_410 rfl rfl rfl
    replace w := w.aload (q := 414) (v := (.ref es)) at_412 rfl rfl rfl
    replace w := w.aload (q := 416) (v := (.ref et)) at_414 rfl rfl rfl
    obtain ⟨_, _, ⟨rfl, eh⟩, w⟩ := w.callS (y := (⟨"com/example/weaverbird/weaverbird/paraphrases/SourceRowsGatherByPhrasePinLaw", "row", "(Lcom/example/weaverbird/weaverbird/paraphrases/SourceRows;I[I[I[I)Z"⟩ : MethodName)) (argsL := [(.ref a), (.int (1 : Int32)), (.ref ep), (.ref es), (.ref et)]) (rest := []) (own_row l Z a0 hw _ n0 S.z0 a ph sg tg rw ep es et _ _ _ _ _ _ _ _ 1 1 a1 A1 B1 q1 z174 z177 S rfl rfl rfl rfl rfl rfl rfl (by omega) (by omega) (by omega)) (hw _ (List.mem_of_getElem? (i := 35) rfl)) (hw _ (List.mem_of_getElem? (i := 36) rfl)) (hw _ (List.mem_of_getElem? (i := 37) rfl)) (hw _ (List.mem_of_getElem? (i := 38) rfl)) (by decide) at_416 (lenOf pd_6 rfl) rfl rfl (by decide) (W := 0) (Nat.le_of_eq rfl) (by decide) (by decide) (by decide) (q := 419) rfl
    rw [eh] at w
    replace w := w [(.int (1 : Int32))] rfl
    obtain ⟨-, w⟩ := (w.ifEq (q := 426) (q' := 422) (xi := 1) at_419 rfl (by decide) (by decide) rfl).resolve_left (fun g => by have hc419 := g.1; revert hc419; decide)
    replace w := w.iconst (q := 423) (z := (1 : Int32)) at_422 (by decide) rfl
    replace w := w.goto (q := 427) at_423 (by decide) (by decide)
    replace w := w.istore (q := 429) (l' := #[.val (.int x0), .val (.int x1), .val (.int x2), .val (.int x3), .val (.int q0), .val (.int q1), .val (.int q2), .val (.int u0), .val (.int v0), .val (.int u1), .val (.int v1), .val (.int u2), .val (.int v2), .val (.ref rw), .val (.ref ep), .val (.ref es), .val (.ref et), .val (.ref a), .val (.int (2 : Int32)), .val (.int (1 : Int32))]) at_427 rfl rfl
    replace w := w.iload (q := 431) (v := (1 : Int32)) at_429 rfl rfl
    obtain ⟨-, w⟩ := (w.ifEq (q := 459) (q' := 434) (xi := 1) at_431 rfl (by decide) (by decide) rfl).resolve_left (fun g => by have hc431 := g.1; revert hc431; decide)
    replace w := w.iload (q := 436) (v := (2 : Int32)) at_434 rfl rfl
    replace w := w.iconst (q := 437) (z := (3 : Int32)) at_436 (by decide) rfl
    obtain ⟨-, w⟩ := (w.icmpLt (q := 455) (q' := 440) (xi := 2) (yi := 3) at_437 rfl rfl (by decide) (by decide) rfl).resolve_right (fun g => by have hc437 := g.1; revert hc437; decide)
    replace w := w.iconst (q := 456) (z := (1 : Int32)) at_455 (by decide) rfl
    replace w := w.goto (q := 460) at_456 (by decide) (by decide)
    replace w := w.istore (q := 462) (l' := #[.val (.int x0), .val (.int x1), .val (.int x2), .val (.int x3), .val (.int q0), .val (.int q1), .val (.int q2), .val (.int u0), .val (.int v0), .val (.int u1), .val (.int v1), .val (.int u2), .val (.int v2), .val (.ref rw), .val (.ref ep), .val (.ref es), .val (.ref et), .val (.ref a), .val (.int (2 : Int32)), .val (.int (1 : Int32))]) at_460 rfl rfl
    replace w := w.iload (q := 464) (v := (1 : Int32)) at_462 rfl rfl
    exact w.retZ at_464 (z := 1) (by decide) rfl (by decide) (by decide)
  · replace w := w.iconst (q := 147) (z := (1 : Int32)) at_146 (by decide) rfl
    replace w := w.istore (q := 149) (l' := #[.val (.int x0), .val (.int x1), .val (.int x2), .val (.int x3), .val (.int q0), .val (.int q1), .val (.int q2), .val (.int u0), .val (.int v0), .val (.int u1), .val (.int v1), .val (.int u2), .val (.int v2), .val (.ref rw), .val (.ref ep), .val (.ref es), .val (.ref et), .val (.ref a), .val (.int (1 : Int32)), .unset]) at_147 rfl rfl
    replace w := w.aload (q := 151) (v := (.ref ep)) at_149 rfl rfl rfl
    replace w := w.iconst (q := 152) (z := (0 : Int32)) at_151 (by decide) rfl
    replace w := w.iload (q := 154) (v := q0) at_152 rfl rfl
    obtain ⟨h180, W181, w⟩ := w.stIl (q := 155) (S.2.2.2.2.2.1) 0 rfl (ltl rfl) (S.ge.2.2.2.2.2.1) at_154 rfl
    replace S := S.setEp W181
    replace S : Sr Z h180 n0 a ph sg tg rw ep es et s ((.int a0') :: (.int a1) :: (.int a2) :: [.int 0, .int 0, .int 0, .int 0, .int 0, .int 0, .int 0, .int 0, .int 0, .int 0, .int 0, .int 0, .int 0]) ((.double (FP.i2d A0)) :: (.double (FP.i2d A1)) :: (.double (FP.i2d A2)) :: [.double 0, .double 0, .double 0, .double 0, .double 0, .double 0, .double 0, .double 0, .double 0, .double 0, .double 0, .double 0, .double 0]) ((.double (FP.i2d B0)) :: (.double (FP.i2d B1)) :: (.double (FP.i2d B2)) :: [.double 0, .double 0, .double 0, .double 0, .double 0, .double 0, .double 0, .double 0, .double 0, .double 0, .double 0, .double 0, .double 0]) f' [(.int q0), (.int (0 : Int32)), (.int (0 : Int32))] [(.int (0 : Int32)), (.int (0 : Int32)), (.int (0 : Int32))] [(.int (0 : Int32)), (.int (0 : Int32)), (.int (0 : Int32))] := S
    replace w := w.aload (q := 157) (v := (.ref es)) at_155 rfl rfl rfl
    replace w := w.iconst (q := 158) (z := (0 : Int32)) at_157 (by decide) rfl
    replace w := w.iload (q := 160) (v := u0) at_158 rfl rfl
    replace w := w.iload (q := 162) (v := q1) at_160 rfl rfl
    replace w := w.iload (q := 164) (v := q0) at_162 rfl rfl
    obtain ⟨hc164, w⟩ := (w.icmpNe (q := 172) (q' := 167) (xi := q1.toInt) (yi := q0.toInt) at_164 rfl rfl (by decide) (by decide) rfl).resolve_right (fun g => by have hc164 := g.1; omega)
    replace w := w.iconst (q := 173) (z := (0 : Int32)) at_172 (by decide) rfl
    obtain ⟨z182, hz182⟩ : ∃ z : Int32, u0 + (0 : Int32) = z := ⟨_, rfl⟩
    replace w := w.iadd (q := 174) at_173 hz182 rfl
    have fz182 := own_add hz182 (by omega) (by omega) (by omega) (by omega)
    replace w := w.iload (q := 176) (v := q2) at_174 rfl rfl
    replace w := w.iload (q := 178) (v := q0) at_176 rfl rfl
    obtain ⟨hc178, w⟩ := (w.icmpNe (q := 186) (q' := 181) (xi := q2.toInt) (yi := q0.toInt) at_178 rfl rfl (by decide) (by decide) rfl).resolve_right (fun g => by have hc178 := g.1; omega)
    replace w := w.iconst (q := 187) (z := (0 : Int32)) at_186 (by decide) rfl
    obtain ⟨z183, hz183⟩ : ∃ z : Int32, z182 + (0 : Int32) = z := ⟨_, rfl⟩
    replace w := w.iadd (q := 188) at_187 hz183 rfl
    have fz183 := own_add hz183 (by omega) (by omega) (by omega) (by omega)
    obtain ⟨h184, W185, w⟩ := w.stIl (q := 189) (S.2.2.2.2.2.2.1) 0 rfl (ltl rfl) (S.ge.2.2.2.2.2.2.1) at_188 rfl
    replace S := S.setEs W185
    replace S : Sr Z h184 n0 a ph sg tg rw ep es et s ((.int a0') :: (.int a1) :: (.int a2) :: [.int 0, .int 0, .int 0, .int 0, .int 0, .int 0, .int 0, .int 0, .int 0, .int 0, .int 0, .int 0, .int 0]) ((.double (FP.i2d A0)) :: (.double (FP.i2d A1)) :: (.double (FP.i2d A2)) :: [.double 0, .double 0, .double 0, .double 0, .double 0, .double 0, .double 0, .double 0, .double 0, .double 0, .double 0, .double 0, .double 0]) ((.double (FP.i2d B0)) :: (.double (FP.i2d B1)) :: (.double (FP.i2d B2)) :: [.double 0, .double 0, .double 0, .double 0, .double 0, .double 0, .double 0, .double 0, .double 0, .double 0, .double 0, .double 0, .double 0]) f' [(.int q0), (.int (0 : Int32)), (.int (0 : Int32))] [(.int z183), (.int (0 : Int32)), (.int (0 : Int32))] [(.int (0 : Int32)), (.int (0 : Int32)), (.int (0 : Int32))] := S
    replace w := w.aload (q := 191) (v := (.ref et)) at_189 rfl rfl rfl
    replace w := w.iconst (q := 192) (z := (0 : Int32)) at_191 (by decide) rfl
    replace w := w.iload (q := 194) (v := v0) at_192 rfl rfl
    replace w := w.iload (q := 196) (v := q1) at_194 rfl rfl
    replace w := w.iload (q := 198) (v := q0) at_196 rfl rfl
    obtain ⟨hc198, w⟩ := (w.icmpNe (q := 206) (q' := 201) (xi := q1.toInt) (yi := q0.toInt) at_198 rfl rfl (by decide) (by decide) rfl).resolve_right (fun g => by have hc198 := g.1; omega)
    replace w := w.iconst (q := 207) (z := (0 : Int32)) at_206 (by decide) rfl
    obtain ⟨z186, hz186⟩ : ∃ z : Int32, v0 + (0 : Int32) = z := ⟨_, rfl⟩
    replace w := w.iadd (q := 208) at_207 hz186 rfl
    have fz186 := own_add hz186 (by omega) (by omega) (by omega) (by omega)
    replace w := w.iload (q := 210) (v := q2) at_208 rfl rfl
    replace w := w.iload (q := 212) (v := q0) at_210 rfl rfl
    obtain ⟨hc212, w⟩ := (w.icmpNe (q := 220) (q' := 215) (xi := q2.toInt) (yi := q0.toInt) at_212 rfl rfl (by decide) (by decide) rfl).resolve_right (fun g => by have hc212 := g.1; omega)
    replace w := w.iconst (q := 221) (z := (0 : Int32)) at_220 (by decide) rfl
    obtain ⟨z187, hz187⟩ : ∃ z : Int32, z186 + (0 : Int32) = z := ⟨_, rfl⟩
    replace w := w.iadd (q := 222) at_221 hz187 rfl
    have fz187 := own_add hz187 (by omega) (by omega) (by omega) (by omega)
    obtain ⟨h188, W189, w⟩ := w.stIl (q := 223) (S.2.2.2.2.2.2.2.1) 0 rfl (ltl rfl) (S.ge.2.2.2.2.2.2.2) at_222 rfl
    replace S := S.setEt W189
    replace S : Sr Z h188 n0 a ph sg tg rw ep es et s ((.int a0') :: (.int a1) :: (.int a2) :: [.int 0, .int 0, .int 0, .int 0, .int 0, .int 0, .int 0, .int 0, .int 0, .int 0, .int 0, .int 0, .int 0]) ((.double (FP.i2d A0)) :: (.double (FP.i2d A1)) :: (.double (FP.i2d A2)) :: [.double 0, .double 0, .double 0, .double 0, .double 0, .double 0, .double 0, .double 0, .double 0, .double 0, .double 0, .double 0, .double 0]) ((.double (FP.i2d B0)) :: (.double (FP.i2d B1)) :: (.double (FP.i2d B2)) :: [.double 0, .double 0, .double 0, .double 0, .double 0, .double 0, .double 0, .double 0, .double 0, .double 0, .double 0, .double 0, .double 0]) f' [(.int q0), (.int (0 : Int32)), (.int (0 : Int32))] [(.int z183), (.int (0 : Int32)), (.int (0 : Int32))] [(.int z187), (.int (0 : Int32)), (.int (0 : Int32))] := S
    replace w := w.iload (q := 225) (v := q1) at_223 rfl rfl
    replace w := w.iload (q := 227) (v := q0) at_225 rfl rfl
    obtain ⟨hc227, w⟩ := (w.icmpEq (q := 282) (q' := 230) (xi := q1.toInt) (yi := q0.toInt) at_227 rfl rfl (by decide) (by decide) rfl).resolve_left (fun g => by have hc227 := g.1; omega)
    replace w := w.aload (q := 232) (v := (.ref ep)) at_230 rfl rfl rfl
    replace w := w.iload (q := 234) (v := (1 : Int32)) at_232 rfl rfl
    replace w := w.iload (q := 236) (v := q1) at_234 rfl rfl
    obtain ⟨h190, W191, w⟩ := w.stIl (q := 237) (S.2.2.2.2.2.1) 1 rfl (ltl rfl) (S.ge.2.2.2.2.2.1) at_236 rfl
    replace S := S.setEp W191
    replace S : Sr Z h190 n0 a ph sg tg rw ep es et s ((.int a0') :: (.int a1) :: (.int a2) :: [.int 0, .int 0, .int 0, .int 0, .int 0, .int 0, .int 0, .int 0, .int 0, .int 0, .int 0, .int 0, .int 0]) ((.double (FP.i2d A0)) :: (.double (FP.i2d A1)) :: (.double (FP.i2d A2)) :: [.double 0, .double 0, .double 0, .double 0, .double 0, .double 0, .double 0, .double 0, .double 0, .double 0, .double 0, .double 0, .double 0]) ((.double (FP.i2d B0)) :: (.double (FP.i2d B1)) :: (.double (FP.i2d B2)) :: [.double 0, .double 0, .double 0, .double 0, .double 0, .double 0, .double 0, .double 0, .double 0, .double 0, .double 0, .double 0, .double 0]) f' [(.int q0), (.int q1), (.int (0 : Int32))] [(.int z183), (.int (0 : Int32)), (.int (0 : Int32))] [(.int z187), (.int (0 : Int32)), (.int (0 : Int32))] := S
    replace w := w.aload (q := 239) (v := (.ref es)) at_237 rfl rfl rfl
    replace w := w.iload (q := 241) (v := (1 : Int32)) at_239 rfl rfl
    replace w := w.iload (q := 243) (v := u1) at_241 rfl rfl
    replace w := w.iload (q := 245) (v := q2) at_243 rfl rfl
    replace w := w.iload (q := 247) (v := q1) at_245 rfl rfl
    obtain ⟨hc247, w⟩ := (w.icmpNe (q := 255) (q' := 250) (xi := q2.toInt) (yi := q1.toInt) at_247 rfl rfl (by decide) (by decide) rfl).resolve_left (fun g => by have hc247 := g.1; omega)
    replace w := w.iload (q := 252) (v := u2) at_250 rfl rfl
    replace w := w.goto (q := 256) at_252 (by decide) (by decide)
    obtain ⟨z192, hz192⟩ : ∃ z : Int32, u1 + u2 = z := ⟨_, rfl⟩
    replace w := w.iadd (q := 257) at_256 hz192 rfl
    have fz192 := own_add hz192 (by omega) (by omega) (by omega) (by omega)
    obtain ⟨h193, W194, w⟩ := w.stIl (q := 258) (S.2.2.2.2.2.2.1) 1 rfl (ltl rfl) (S.ge.2.2.2.2.2.2.1) at_257 rfl
    replace S := S.setEs W194
    replace S : Sr Z h193 n0 a ph sg tg rw ep es et s ((.int a0') :: (.int a1) :: (.int a2) :: [.int 0, .int 0, .int 0, .int 0, .int 0, .int 0, .int 0, .int 0, .int 0, .int 0, .int 0, .int 0, .int 0]) ((.double (FP.i2d A0)) :: (.double (FP.i2d A1)) :: (.double (FP.i2d A2)) :: [.double 0, .double 0, .double 0, .double 0, .double 0, .double 0, .double 0, .double 0, .double 0, .double 0, .double 0, .double 0, .double 0]) ((.double (FP.i2d B0)) :: (.double (FP.i2d B1)) :: (.double (FP.i2d B2)) :: [.double 0, .double 0, .double 0, .double 0, .double 0, .double 0, .double 0, .double 0, .double 0, .double 0, .double 0, .double 0, .double 0]) f' [(.int q0), (.int q1), (.int (0 : Int32))] [(.int z183), (.int z192), (.int (0 : Int32))] [(.int z187), (.int (0 : Int32)), (.int (0 : Int32))] := S
    replace w := w.aload (q := 260) (v := (.ref et)) at_258 rfl rfl rfl
    replace w := w.iload (q := 262) (v := (1 : Int32)) at_260 rfl rfl
    replace w := w.iload (q := 264) (v := v1) at_262 rfl rfl
    replace w := w.iload (q := 266) (v := q2) at_264 rfl rfl
    replace w := w.iload (q := 268) (v := q1) at_266 rfl rfl
    obtain ⟨hc268, w⟩ := (w.icmpNe (q := 276) (q' := 271) (xi := q2.toInt) (yi := q1.toInt) at_268 rfl rfl (by decide) (by decide) rfl).resolve_left (fun g => by have hc268 := g.1; omega)
    replace w := w.iload (q := 273) (v := v2) at_271 rfl rfl
    replace w := w.goto (q := 277) at_273 (by decide) (by decide)
    obtain ⟨z195, hz195⟩ : ∃ z : Int32, v1 + v2 = z := ⟨_, rfl⟩
    replace w := w.iadd (q := 278) at_277 hz195 rfl
    have fz195 := own_add hz195 (by omega) (by omega) (by omega) (by omega)
    obtain ⟨h196, W197, w⟩ := w.stIl (q := 279) (S.2.2.2.2.2.2.2.1) 1 rfl (ltl rfl) (S.ge.2.2.2.2.2.2.2) at_278 rfl
    replace S := S.setEt W197
    replace S : Sr Z h196 n0 a ph sg tg rw ep es et s ((.int a0') :: (.int a1) :: (.int a2) :: [.int 0, .int 0, .int 0, .int 0, .int 0, .int 0, .int 0, .int 0, .int 0, .int 0, .int 0, .int 0, .int 0]) ((.double (FP.i2d A0)) :: (.double (FP.i2d A1)) :: (.double (FP.i2d A2)) :: [.double 0, .double 0, .double 0, .double 0, .double 0, .double 0, .double 0, .double 0, .double 0, .double 0, .double 0, .double 0, .double 0]) ((.double (FP.i2d B0)) :: (.double (FP.i2d B1)) :: (.double (FP.i2d B2)) :: [.double 0, .double 0, .double 0, .double 0, .double 0, .double 0, .double 0, .double 0, .double 0, .double 0, .double 0, .double 0, .double 0]) f' [(.int q0), (.int q1), (.int (0 : Int32))] [(.int z183), (.int z192), (.int (0 : Int32))] [(.int z187), (.int z195), (.int (0 : Int32))] := S
    replace w := w.iinc (q := 282) (z := (2 : Int32)) (l' := #[.val (.int x0), .val (.int x1), .val (.int x2), .val (.int x3), .val (.int q0), .val (.int q1), .val (.int q2), .val (.int u0), .val (.int v0), .val (.int u1), .val (.int v1), .val (.int u2), .val (.int v2), .val (.ref rw), .val (.ref ep), .val (.ref es), .val (.ref et), .val (.ref a), .val (.int (2 : Int32)), .unset]) at_279 rfl (by decide) rfl rfl
    replace w := w.iload (q := 284) (v := q2) at_282 rfl rfl
    replace w := w.iload (q := 286) (v := q0) at_284 rfl rfl
    obtain ⟨hc286, w⟩ := (w.icmpEq (q := 320) (q' := 289) (xi := q2.toInt) (yi := q0.toInt) at_286 rfl rfl (by decide) (by decide) rfl).resolve_left (fun g => by have hc286 := g.1; omega)
    replace w := w.iload (q := 291) (v := q2) at_289 rfl rfl
    replace w := w.iload (q := 293) (v := q1) at_291 rfl rfl
    obtain ⟨hc293, w⟩ := (w.icmpEq (q := 320) (q' := 296) (xi := q2.toInt) (yi := q1.toInt) at_293 rfl rfl (by decide) (by decide) rfl).resolve_right (fun g => by have hc293 := g.1; omega)
    replace w := w.aload (q := 322) (v := (.ref a)) at_320 rfl rfl rfl
    obtain ⟨_, _, ⟨rfl, eh⟩, w⟩ := w.callV (a := a) (y := (⟨"com/example/weaverbird/weaverbird/paraphrases/SourceRows", "size", "()I"⟩ : MethodName)) (argsL := []) (rest := []) (own_size l Z a0 hw _ n0 S.z0 a ph sg tg rw ep es et _ _ _ _ _ _ _ _ S) (S.1.1) (hw _ (List.mem_of_getElem? (i := 30) rfl)) (hw _ (List.mem_of_getElem? (i := 31) rfl)) (hw _ (List.mem_of_getElem? (i := 33) rfl)) (hw _ (List.mem_of_getElem? (i := 32) rfl)) (hw _ (List.mem_of_getElem? (i := 4) rfl)) (hw _ (List.mem_of_getElem? (i := 34) rfl)) (by decide) at_322 (lenOf pd_5 rfl) rfl rfl (by decide) (W := 0) (Nat.le_of_eq rfl) (by decide) (by decide) (by decide) (q := 325) rfl
    rw [eh] at w
    replace w := w [(.int s)] rfl
    replace w := w.iload (q := 327) (v := (2 : Int32)) at_325 rfl rfl
    obtain ⟨hc327, w⟩ := (w.icmpNe (q := 366) (q' := 330) (xi := s.toInt) (yi := 2) at_327 rfl rfl (by decide) (by decide) rfl).resolve_left (fun g => by have hc327 := g.1; omega)
    replace w := w.aload (q := 332) (v := (.ref rw)) at_330 rfl rfl rfl
    replace w := w.iconst (q := 333) (z := (0 : Int32)) at_332 (by decide) rfl
    replace w := ldF (q := 334) (x := -1) w (S.2.2.2.2.1) 0 rfl (by decide) (hf' 0) at_333 rfl
    replace w := w.iconst (q := 335) (z := (-1 : Int32)) at_334 (by decide) rfl
    obtain ⟨-, w⟩ := (w.icmpNe (q := 366) (q' := 338) (xi := - 1) (yi := - 1) at_335 rfl rfl (by decide) (by decide) rfl).resolve_left (fun g => by have hc335 := g.1; revert hc335; decide)
    replace w := w.aload (q := 340) (v := (.ref rw)) at_338 rfl rfl rfl
    replace w := w.iconst (q := 341) (z := (1 : Int32)) at_340 (by decide) rfl
    replace w := ldF (q := 342) (x := -1) w (S.2.2.2.2.1) 1 rfl (by decide) (hf' 1) at_341 rfl
    replace w := w.iconst (q := 343) (z := (-1 : Int32)) at_342 (by decide) rfl
    obtain ⟨-, w⟩ := (w.icmpNe (q := 366) (q' := 346) (xi := - 1) (yi := - 1) at_343 rfl rfl (by decide) (by decide) rfl).resolve_left (fun g => by have hc343 := g.1; revert hc343; decide)
    replace w := w.aload (q := 348) (v := (.ref rw)) at_346 rfl rfl rfl
    replace w := w.iconst (q := 349) (z := (2 : Int32)) at_348 (by decide) rfl
    replace w := ldF (q := 350) (x := -1) w (S.2.2.2.2.1) 2 rfl (by decide) (hf' 2) at_349 rfl
    replace w := w.iconst (q := 351) (z := (-1 : Int32)) at_350 (by decide) rfl
    obtain ⟨-, w⟩ := (w.icmpNe (q := 366) (q' := 354) (xi := - 1) (yi := - 1) at_351 rfl rfl (by decide) (by decide) rfl).resolve_left (fun g => by have hc351 := g.1; revert hc351; decide)
    replace w := w.aload (q := 356) (v := (.ref rw)) at_354 rfl rfl rfl
    replace w := w.iconst (q := 357) (z := (3 : Int32)) at_356 (by decide) rfl
    replace w := ldF (q := 358) (x := -1) w (S.2.2.2.2.1) 3 rfl (by decide) (hf' 3) at_357 rfl
    replace w := w.iconst (q := 359) (z := (-1 : Int32)) at_358 (by decide) rfl
    obtain ⟨-, w⟩ := (w.icmpNe (q := 366) (q' := 362) (xi := - 1) (yi := - 1) at_359 rfl rfl (by decide) (by decide) rfl).resolve_left (fun g => by have hc359 := g.1; revert hc359; decide)
    replace w := w.iconst (q := 363) (z := (1 : Int32)) at_362 (by decide) rfl
    replace w := w.goto (q := 367) at_363 (by decide) (by decide)
    replace w := w.istore (q := 369) (l' := #[.val (.int x0), .val (.int x1), .val (.int x2), .val (.int x3), .val (.int q0), .val (.int q1), .val (.int q2), .val (.int u0), .val (.int v0), .val (.int u1), .val (.int v1), .val (.int u2), .val (.int v2), .val (.ref rw), .val (.ref ep), .val (.ref es), .val (.ref et), .val (.ref a), .val (.int (2 : Int32)), .val (.int (1 : Int32))]) at_367 rfl rfl
    replace w := w.iload (q := 371) (v := (1 : Int32)) at_369 rfl rfl
    obtain ⟨-, w⟩ := (w.ifEq (q := 393) (q' := 374) (xi := 1) at_371 rfl (by decide) (by decide) rfl).resolve_left (fun g => by have hc371 := g.1; revert hc371; decide)
    replace w := w.aload (q := 376) (v := (.ref a)) at_374 rfl rfl rfl
    replace w := w.iconst (q := 377) (z := (0 : Int32)) at_376 (by decide) rfl
    replace w := w.aload (q := 379) (v := (.ref ep)) at_377 rfl rfl rfl
    replace w := w.aload (q := 381) (v := (.ref es)) at_379 rfl rfl rfl
    replace w := w.aload (q := 383) (v := (.ref et)) at_381 rfl rfl rfl
    obtain ⟨_, _, ⟨rfl, eh⟩, w⟩ := w.callS (y := (⟨"com/example/weaverbird/weaverbird/paraphrases/SourceRowsGatherByPhrasePinLaw", "row", "(Lcom/example/weaverbird/weaverbird/paraphrases/SourceRows;I[I[I[I)Z"⟩ : MethodName)) (argsL := [(.ref a), (.int (0 : Int32)), (.ref ep), (.ref es), (.ref et)]) (rest := []) (own_row l Z a0 hw _ n0 S.z0 a ph sg tg rw ep es et _ _ _ _ _ _ _ _ 0 0 a0' A0 B0 q0 z183 z187 S rfl rfl rfl rfl rfl rfl rfl (by omega) (by omega) (by omega)) (hw _ (List.mem_of_getElem? (i := 35) rfl)) (hw _ (List.mem_of_getElem? (i := 36) rfl)) (hw _ (List.mem_of_getElem? (i := 37) rfl)) (hw _ (List.mem_of_getElem? (i := 38) rfl)) (by decide) at_383 (lenOf pd_6 rfl) rfl rfl (by decide) (W := 0) (Nat.le_of_eq rfl) (by decide) (by decide) (by decide) (q := 386) rfl
    rw [eh] at w
    replace w := w [(.int (1 : Int32))] rfl
    obtain ⟨-, w⟩ := (w.ifEq (q := 393) (q' := 389) (xi := 1) at_386 rfl (by decide) (by decide) rfl).resolve_left (fun g => by have hc386 := g.1; revert hc386; decide)
    replace w := w.iconst (q := 390) (z := (1 : Int32)) at_389 (by decide) rfl
    replace w := w.goto (q := 394) at_390 (by decide) (by decide)
    replace w := w.istore (q := 396) (l' := #[.val (.int x0), .val (.int x1), .val (.int x2), .val (.int x3), .val (.int q0), .val (.int q1), .val (.int q2), .val (.int u0), .val (.int v0), .val (.int u1), .val (.int v1), .val (.int u2), .val (.int v2), .val (.ref rw), .val (.ref ep), .val (.ref es), .val (.ref et), .val (.ref a), .val (.int (2 : Int32)), .val (.int (1 : Int32))]) at_394 rfl rfl
    replace w := w.iload (q := 398) (v := (1 : Int32)) at_396 rfl rfl
    obtain ⟨-, w⟩ := (w.ifEq (q := 426) (q' := 401) (xi := 1) at_398 rfl (by decide) (by decide) rfl).resolve_left (fun g => by have hc398 := g.1; revert hc398; decide)
    replace w := w.iload (q := 403) (v := (2 : Int32)) at_401 rfl rfl
    replace w := w.iconst (q := 404) (z := (2 : Int32)) at_403 (by decide) rfl
    obtain ⟨-, w⟩ := (w.icmpLt (q := 422) (q' := 407) (xi := 2) (yi := 2) at_404 rfl rfl (by decide) (by decide) rfl).resolve_left (fun g => by have hc404 := g.1; revert hc404; decide)
    replace w := w.aload (q := 409) (v := (.ref a)) at_407 rfl rfl rfl
    replace w := w.iconst (q := 410) (z := (1 : Int32)) at_409 (by decide) rfl
    replace w := w.aload (q := 412) (v := (.ref ep)) at_410 rfl rfl rfl
    replace w := w.aload (q := 414) (v := (.ref es)) at_412 rfl rfl rfl
    replace w := w.aload (q := 416) (v := (.ref et)) at_414 rfl rfl rfl
    obtain ⟨_, _, ⟨rfl, eh⟩, w⟩ := w.callS (y := (⟨"com/example/weaverbird/weaverbird/paraphrases/SourceRowsGatherByPhrasePinLaw", "row", "(Lcom/example/weaverbird/weaverbird/paraphrases/SourceRows;I[I[I[I)Z"⟩ : MethodName)) (argsL := [(.ref a), (.int (1 : Int32)), (.ref ep), (.ref es), (.ref et)]) (rest := []) (own_row l Z a0 hw _ n0 S.z0 a ph sg tg rw ep es et _ _ _ _ _ _ _ _ 1 1 a1 A1 B1 q1 z192 z195 S rfl rfl rfl rfl rfl rfl rfl (by omega) (by omega) (by omega)) (hw _ (List.mem_of_getElem? (i := 35) rfl)) (hw _ (List.mem_of_getElem? (i := 36) rfl)) (hw _ (List.mem_of_getElem? (i := 37) rfl)) (hw _ (List.mem_of_getElem? (i := 38) rfl)) (by decide) at_416 (lenOf pd_6 rfl) rfl rfl (by decide) (W := 0) (Nat.le_of_eq rfl) (by decide) (by decide) (by decide) (q := 419) rfl
    rw [eh] at w
    replace w := w [(.int (1 : Int32))] rfl
    obtain ⟨-, w⟩ := (w.ifEq (q := 426) (q' := 422) (xi := 1) at_419 rfl (by decide) (by decide) rfl).resolve_left (fun g => by have hc419 := g.1; revert hc419; decide)
    replace w := w.iconst (q := 423) (z := (1 : Int32)) at_422 (by decide) rfl
    replace w := w.goto (q := 427) at_423 (by decide) (by decide)
    replace w := w.istore (q := 429) (l' := #[.val (.int x0), .val (.int x1), .val (.int x2), .val (.int x3), .val (.int q0), .val (.int q1), .val (.int q2), .val (.int u0), .val (.int v0), .val (.int u1), .val (.int v1), .val (.int u2), .val (.int v2), .val (.ref rw), .val (.ref ep), .val (.ref es), .val (.ref et), .val (.ref a), .val (.int (2 : Int32)), .val (.int (1 : Int32))]) at_427 rfl rfl
    replace w := w.iload (q := 431) (v := (1 : Int32)) at_429 rfl rfl
    obtain ⟨-, w⟩ := (w.ifEq (q := 459) (q' := 434) (xi := 1) at_431 rfl (by decide) (by decide) rfl).resolve_left (fun g => by have hc431 := g.1; revert hc431; decide)
    replace w := w.iload (q := 436) (v := (2 : Int32)) at_434 rfl rfl
    replace w := w.iconst (q := 437) (z := (3 : Int32)) at_436 (by decide) rfl
    obtain ⟨-, w⟩ := (w.icmpLt (q := 455) (q' := 440) (xi := 2) (yi := 3) at_437 rfl rfl (by decide) (by decide) rfl).resolve_right (fun g => by have hc437 := g.1; revert hc437; decide)
    replace w := w.iconst (q := 456) (z := (1 : Int32)) at_455 (by decide) rfl
    replace w := w.goto (q := 460) at_456 (by decide) (by decide)
    replace w := w.istore (q := 462) (l' := #[.val (.int x0), .val (.int x1), .val (.int x2), .val (.int x3), .val (.int q0), .val (.int q1), .val (.int q2), .val (.int u0), .val (.int v0), .val (.int u1), .val (.int v1), .val (.int u2), .val (.int v2), .val (.ref rw), .val (.ref ep), .val (.ref es), .val (.ref et), .val (.ref a), .val (.int (2 : Int32)), .val (.int (1 : Int32))]) at_460 rfl rfl
    replace w := w.iload (q := 464) (v := (1 : Int32)) at_462 rfl rfl
    exact w.retZ at_464 (z := 1) (by decide) rfl (by decide) (by decide)
  · replace w := w.iconst (q := 147) (z := (1 : Int32)) at_146 (by decide) rfl
    replace w := w.istore (q := 149) (l' := #[.val (.int x0), .val (.int x1), .val (.int x2), .val (.int x3), .val (.int q0), .val (.int q1), .val (.int q2), .val (.int u0), .val (.int v0), .val (.int u1), .val (.int v1), .val (.int u2), .val (.int v2), .val (.ref rw), .val (.ref ep), .val (.ref es), .val (.ref et), .val (.ref a), .val (.int (1 : Int32)), .unset]) at_147 rfl rfl
    replace w := w.aload (q := 151) (v := (.ref ep)) at_149 rfl rfl rfl
    replace w := w.iconst (q := 152) (z := (0 : Int32)) at_151 (by decide) rfl
    replace w := w.iload (q := 154) (v := q0) at_152 rfl rfl
    obtain ⟨h198, W199, w⟩ := w.stIl (q := 155) (S.2.2.2.2.2.1) 0 rfl (ltl rfl) (S.ge.2.2.2.2.2.1) at_154 rfl
    replace S := S.setEp W199
    replace S : Sr Z h198 n0 a ph sg tg rw ep es et s ((.int a0') :: (.int a1) :: (.int a2) :: [.int 0, .int 0, .int 0, .int 0, .int 0, .int 0, .int 0, .int 0, .int 0, .int 0, .int 0, .int 0, .int 0]) ((.double (FP.i2d A0)) :: (.double (FP.i2d A1)) :: (.double (FP.i2d A2)) :: [.double 0, .double 0, .double 0, .double 0, .double 0, .double 0, .double 0, .double 0, .double 0, .double 0, .double 0, .double 0, .double 0]) ((.double (FP.i2d B0)) :: (.double (FP.i2d B1)) :: (.double (FP.i2d B2)) :: [.double 0, .double 0, .double 0, .double 0, .double 0, .double 0, .double 0, .double 0, .double 0, .double 0, .double 0, .double 0, .double 0]) f' [(.int q0), (.int (0 : Int32)), (.int (0 : Int32))] [(.int (0 : Int32)), (.int (0 : Int32)), (.int (0 : Int32))] [(.int (0 : Int32)), (.int (0 : Int32)), (.int (0 : Int32))] := S
    replace w := w.aload (q := 157) (v := (.ref es)) at_155 rfl rfl rfl
    replace w := w.iconst (q := 158) (z := (0 : Int32)) at_157 (by decide) rfl
    replace w := w.iload (q := 160) (v := u0) at_158 rfl rfl
    replace w := w.iload (q := 162) (v := q1) at_160 rfl rfl
    replace w := w.iload (q := 164) (v := q0) at_162 rfl rfl
    obtain ⟨hc164, w⟩ := (w.icmpNe (q := 172) (q' := 167) (xi := q1.toInt) (yi := q0.toInt) at_164 rfl rfl (by decide) (by decide) rfl).resolve_right (fun g => by have hc164 := g.1; omega)
    replace w := w.iconst (q := 173) (z := (0 : Int32)) at_172 (by decide) rfl
    obtain ⟨z200, hz200⟩ : ∃ z : Int32, u0 + (0 : Int32) = z := ⟨_, rfl⟩
    replace w := w.iadd (q := 174) at_173 hz200 rfl
    have fz200 := own_add hz200 (by omega) (by omega) (by omega) (by omega)
    replace w := w.iload (q := 176) (v := q2) at_174 rfl rfl
    replace w := w.iload (q := 178) (v := q0) at_176 rfl rfl
    obtain ⟨hc178, w⟩ := (w.icmpNe (q := 186) (q' := 181) (xi := q2.toInt) (yi := q0.toInt) at_178 rfl rfl (by decide) (by decide) rfl).resolve_right (fun g => by have hc178 := g.1; omega)
    replace w := w.iconst (q := 187) (z := (0 : Int32)) at_186 (by decide) rfl
    obtain ⟨z201, hz201⟩ : ∃ z : Int32, z200 + (0 : Int32) = z := ⟨_, rfl⟩
    replace w := w.iadd (q := 188) at_187 hz201 rfl
    have fz201 := own_add hz201 (by omega) (by omega) (by omega) (by omega)
    obtain ⟨h202, W203, w⟩ := w.stIl (q := 189) (S.2.2.2.2.2.2.1) 0 rfl (ltl rfl) (S.ge.2.2.2.2.2.2.1) at_188 rfl
    replace S := S.setEs W203
    replace S : Sr Z h202 n0 a ph sg tg rw ep es et s ((.int a0') :: (.int a1) :: (.int a2) :: [.int 0, .int 0, .int 0, .int 0, .int 0, .int 0, .int 0, .int 0, .int 0, .int 0, .int 0, .int 0, .int 0]) ((.double (FP.i2d A0)) :: (.double (FP.i2d A1)) :: (.double (FP.i2d A2)) :: [.double 0, .double 0, .double 0, .double 0, .double 0, .double 0, .double 0, .double 0, .double 0, .double 0, .double 0, .double 0, .double 0]) ((.double (FP.i2d B0)) :: (.double (FP.i2d B1)) :: (.double (FP.i2d B2)) :: [.double 0, .double 0, .double 0, .double 0, .double 0, .double 0, .double 0, .double 0, .double 0, .double 0, .double 0, .double 0, .double 0]) f' [(.int q0), (.int (0 : Int32)), (.int (0 : Int32))] [(.int z201), (.int (0 : Int32)), (.int (0 : Int32))] [(.int (0 : Int32)), (.int (0 : Int32)), (.int (0 : Int32))] := S
    replace w := w.aload (q := 191) (v := (.ref et)) at_189 rfl rfl rfl
    replace w := w.iconst (q := 192) (z := (0 : Int32)) at_191 (by decide) rfl
    replace w := w.iload (q := 194) (v := v0) at_192 rfl rfl
    replace w := w.iload (q := 196) (v := q1) at_194 rfl rfl
    replace w := w.iload (q := 198) (v := q0) at_196 rfl rfl
    obtain ⟨hc198, w⟩ := (w.icmpNe (q := 206) (q' := 201) (xi := q1.toInt) (yi := q0.toInt) at_198 rfl rfl (by decide) (by decide) rfl).resolve_right (fun g => by have hc198 := g.1; omega)
    replace w := w.iconst (q := 207) (z := (0 : Int32)) at_206 (by decide) rfl
    obtain ⟨z204, hz204⟩ : ∃ z : Int32, v0 + (0 : Int32) = z := ⟨_, rfl⟩
    replace w := w.iadd (q := 208) at_207 hz204 rfl
    have fz204 := own_add hz204 (by omega) (by omega) (by omega) (by omega)
    replace w := w.iload (q := 210) (v := q2) at_208 rfl rfl
    replace w := w.iload (q := 212) (v := q0) at_210 rfl rfl
    obtain ⟨hc212, w⟩ := (w.icmpNe (q := 220) (q' := 215) (xi := q2.toInt) (yi := q0.toInt) at_212 rfl rfl (by decide) (by decide) rfl).resolve_right (fun g => by have hc212 := g.1; omega)
    replace w := w.iconst (q := 221) (z := (0 : Int32)) at_220 (by decide) rfl
    obtain ⟨z205, hz205⟩ : ∃ z : Int32, z204 + (0 : Int32) = z := ⟨_, rfl⟩
    replace w := w.iadd (q := 222) at_221 hz205 rfl
    have fz205 := own_add hz205 (by omega) (by omega) (by omega) (by omega)
    obtain ⟨h206, W207, w⟩ := w.stIl (q := 223) (S.2.2.2.2.2.2.2.1) 0 rfl (ltl rfl) (S.ge.2.2.2.2.2.2.2) at_222 rfl
    replace S := S.setEt W207
    replace S : Sr Z h206 n0 a ph sg tg rw ep es et s ((.int a0') :: (.int a1) :: (.int a2) :: [.int 0, .int 0, .int 0, .int 0, .int 0, .int 0, .int 0, .int 0, .int 0, .int 0, .int 0, .int 0, .int 0]) ((.double (FP.i2d A0)) :: (.double (FP.i2d A1)) :: (.double (FP.i2d A2)) :: [.double 0, .double 0, .double 0, .double 0, .double 0, .double 0, .double 0, .double 0, .double 0, .double 0, .double 0, .double 0, .double 0]) ((.double (FP.i2d B0)) :: (.double (FP.i2d B1)) :: (.double (FP.i2d B2)) :: [.double 0, .double 0, .double 0, .double 0, .double 0, .double 0, .double 0, .double 0, .double 0, .double 0, .double 0, .double 0, .double 0]) f' [(.int q0), (.int (0 : Int32)), (.int (0 : Int32))] [(.int z201), (.int (0 : Int32)), (.int (0 : Int32))] [(.int z205), (.int (0 : Int32)), (.int (0 : Int32))] := S
    replace w := w.iload (q := 225) (v := q1) at_223 rfl rfl
    replace w := w.iload (q := 227) (v := q0) at_225 rfl rfl
    obtain ⟨hc227, w⟩ := (w.icmpEq (q := 282) (q' := 230) (xi := q1.toInt) (yi := q0.toInt) at_227 rfl rfl (by decide) (by decide) rfl).resolve_left (fun g => by have hc227 := g.1; omega)
    replace w := w.aload (q := 232) (v := (.ref ep)) at_230 rfl rfl rfl
    replace w := w.iload (q := 234) (v := (1 : Int32)) at_232 rfl rfl
    replace w := w.iload (q := 236) (v := q1) at_234 rfl rfl
    obtain ⟨h208, W209, w⟩ := w.stIl (q := 237) (S.2.2.2.2.2.1) 1 rfl (ltl rfl) (S.ge.2.2.2.2.2.1) at_236 rfl
    replace S := S.setEp W209
    replace S : Sr Z h208 n0 a ph sg tg rw ep es et s ((.int a0') :: (.int a1) :: (.int a2) :: [.int 0, .int 0, .int 0, .int 0, .int 0, .int 0, .int 0, .int 0, .int 0, .int 0, .int 0, .int 0, .int 0]) ((.double (FP.i2d A0)) :: (.double (FP.i2d A1)) :: (.double (FP.i2d A2)) :: [.double 0, .double 0, .double 0, .double 0, .double 0, .double 0, .double 0, .double 0, .double 0, .double 0, .double 0, .double 0, .double 0]) ((.double (FP.i2d B0)) :: (.double (FP.i2d B1)) :: (.double (FP.i2d B2)) :: [.double 0, .double 0, .double 0, .double 0, .double 0, .double 0, .double 0, .double 0, .double 0, .double 0, .double 0, .double 0, .double 0]) f' [(.int q0), (.int q1), (.int (0 : Int32))] [(.int z201), (.int (0 : Int32)), (.int (0 : Int32))] [(.int z205), (.int (0 : Int32)), (.int (0 : Int32))] := S
    replace w := w.aload (q := 239) (v := (.ref es)) at_237 rfl rfl rfl
    replace w := w.iload (q := 241) (v := (1 : Int32)) at_239 rfl rfl
    replace w := w.iload (q := 243) (v := u1) at_241 rfl rfl
    replace w := w.iload (q := 245) (v := q2) at_243 rfl rfl
    replace w := w.iload (q := 247) (v := q1) at_245 rfl rfl
    obtain ⟨hc247, w⟩ := (w.icmpNe (q := 255) (q' := 250) (xi := q2.toInt) (yi := q1.toInt) at_247 rfl rfl (by decide) (by decide) rfl).resolve_right (fun g => by have hc247 := g.1; omega)
    replace w := w.iconst (q := 256) (z := (0 : Int32)) at_255 (by decide) rfl
    obtain ⟨z210, hz210⟩ : ∃ z : Int32, u1 + (0 : Int32) = z := ⟨_, rfl⟩
    replace w := w.iadd (q := 257) at_256 hz210 rfl
    have fz210 := own_add hz210 (by omega) (by omega) (by omega) (by omega)
    obtain ⟨h211, W212, w⟩ := w.stIl (q := 258) (S.2.2.2.2.2.2.1) 1 rfl (ltl rfl) (S.ge.2.2.2.2.2.2.1) at_257 rfl
    replace S := S.setEs W212
    replace S : Sr Z h211 n0 a ph sg tg rw ep es et s ((.int a0') :: (.int a1) :: (.int a2) :: [.int 0, .int 0, .int 0, .int 0, .int 0, .int 0, .int 0, .int 0, .int 0, .int 0, .int 0, .int 0, .int 0]) ((.double (FP.i2d A0)) :: (.double (FP.i2d A1)) :: (.double (FP.i2d A2)) :: [.double 0, .double 0, .double 0, .double 0, .double 0, .double 0, .double 0, .double 0, .double 0, .double 0, .double 0, .double 0, .double 0]) ((.double (FP.i2d B0)) :: (.double (FP.i2d B1)) :: (.double (FP.i2d B2)) :: [.double 0, .double 0, .double 0, .double 0, .double 0, .double 0, .double 0, .double 0, .double 0, .double 0, .double 0, .double 0, .double 0]) f' [(.int q0), (.int q1), (.int (0 : Int32))] [(.int z201), (.int z210), (.int (0 : Int32))] [(.int z205), (.int (0 : Int32)), (.int (0 : Int32))] := S
    replace w := w.aload (q := 260) (v := (.ref et)) at_258 rfl rfl rfl
    replace w := w.iload (q := 262) (v := (1 : Int32)) at_260 rfl rfl
    replace w := w.iload (q := 264) (v := v1) at_262 rfl rfl
    replace w := w.iload (q := 266) (v := q2) at_264 rfl rfl
    replace w := w.iload (q := 268) (v := q1) at_266 rfl rfl
    obtain ⟨hc268, w⟩ := (w.icmpNe (q := 276) (q' := 271) (xi := q2.toInt) (yi := q1.toInt) at_268 rfl rfl (by decide) (by decide) rfl).resolve_right (fun g => by have hc268 := g.1; omega)
    replace w := w.iconst (q := 277) (z := (0 : Int32)) at_276 (by decide) rfl
    obtain ⟨z213, hz213⟩ : ∃ z : Int32, v1 + (0 : Int32) = z := ⟨_, rfl⟩
    replace w := w.iadd (q := 278) at_277 hz213 rfl
    have fz213 := own_add hz213 (by omega) (by omega) (by omega) (by omega)
    obtain ⟨h214, W215, w⟩ := w.stIl (q := 279) (S.2.2.2.2.2.2.2.1) 1 rfl (ltl rfl) (S.ge.2.2.2.2.2.2.2) at_278 rfl
    replace S := S.setEt W215
    replace S : Sr Z h214 n0 a ph sg tg rw ep es et s ((.int a0') :: (.int a1) :: (.int a2) :: [.int 0, .int 0, .int 0, .int 0, .int 0, .int 0, .int 0, .int 0, .int 0, .int 0, .int 0, .int 0, .int 0]) ((.double (FP.i2d A0)) :: (.double (FP.i2d A1)) :: (.double (FP.i2d A2)) :: [.double 0, .double 0, .double 0, .double 0, .double 0, .double 0, .double 0, .double 0, .double 0, .double 0, .double 0, .double 0, .double 0]) ((.double (FP.i2d B0)) :: (.double (FP.i2d B1)) :: (.double (FP.i2d B2)) :: [.double 0, .double 0, .double 0, .double 0, .double 0, .double 0, .double 0, .double 0, .double 0, .double 0, .double 0, .double 0, .double 0]) f' [(.int q0), (.int q1), (.int (0 : Int32))] [(.int z201), (.int z210), (.int (0 : Int32))] [(.int z205), (.int z213), (.int (0 : Int32))] := S
    replace w := w.iinc (q := 282) (z := (2 : Int32)) (l' := #[.val (.int x0), .val (.int x1), .val (.int x2), .val (.int x3), .val (.int q0), .val (.int q1), .val (.int q2), .val (.int u0), .val (.int v0), .val (.int u1), .val (.int v1), .val (.int u2), .val (.int v2), .val (.ref rw), .val (.ref ep), .val (.ref es), .val (.ref et), .val (.ref a), .val (.int (2 : Int32)), .unset]) at_279 rfl (by decide) rfl rfl
    replace w := w.iload (q := 284) (v := q2) at_282 rfl rfl
    replace w := w.iload (q := 286) (v := q0) at_284 rfl rfl
    obtain ⟨hc286, w⟩ := (w.icmpEq (q := 320) (q' := 289) (xi := q2.toInt) (yi := q0.toInt) at_286 rfl rfl (by decide) (by decide) rfl).resolve_left (fun g => by have hc286 := g.1; omega)
    replace w := w.iload (q := 291) (v := q2) at_289 rfl rfl
    replace w := w.iload (q := 293) (v := q1) at_291 rfl rfl
    obtain ⟨hc293, w⟩ := (w.icmpEq (q := 320) (q' := 296) (xi := q2.toInt) (yi := q1.toInt) at_293 rfl rfl (by decide) (by decide) rfl).resolve_left (fun g => by have hc293 := g.1; omega)
    replace w := w.aload (q := 298) (v := (.ref ep)) at_296 rfl rfl rfl
    replace w := w.iload (q := 300) (v := (2 : Int32)) at_298 rfl rfl
    replace w := w.iload (q := 302) (v := q2) at_300 rfl rfl
    obtain ⟨h216, W217, w⟩ := w.stIl (q := 303) (S.2.2.2.2.2.1) 2 rfl (ltl rfl) (S.ge.2.2.2.2.2.1) at_302 rfl
    replace S := S.setEp W217
    replace S : Sr Z h216 n0 a ph sg tg rw ep es et s ((.int a0') :: (.int a1) :: (.int a2) :: [.int 0, .int 0, .int 0, .int 0, .int 0, .int 0, .int 0, .int 0, .int 0, .int 0, .int 0, .int 0, .int 0]) ((.double (FP.i2d A0)) :: (.double (FP.i2d A1)) :: (.double (FP.i2d A2)) :: [.double 0, .double 0, .double 0, .double 0, .double 0, .double 0, .double 0, .double 0, .double 0, .double 0, .double 0, .double 0, .double 0]) ((.double (FP.i2d B0)) :: (.double (FP.i2d B1)) :: (.double (FP.i2d B2)) :: [.double 0, .double 0, .double 0, .double 0, .double 0, .double 0, .double 0, .double 0, .double 0, .double 0, .double 0, .double 0, .double 0]) f' [(.int q0), (.int q1), (.int q2)] [(.int z201), (.int z210), (.int (0 : Int32))] [(.int z205), (.int z213), (.int (0 : Int32))] := S
    replace w := w.aload (q := 305) (v := (.ref es)) at_303 rfl rfl rfl
    replace w := w.iload (q := 307) (v := (2 : Int32)) at_305 rfl rfl
    replace w := w.iload (q := 309) (v := u2) at_307 rfl rfl
    obtain ⟨h218, W219, w⟩ := w.stIl (q := 310) (S.2.2.2.2.2.2.1) 2 rfl (ltl rfl) (S.ge.2.2.2.2.2.2.1) at_309 rfl
    replace S := S.setEs W219
    replace S : Sr Z h218 n0 a ph sg tg rw ep es et s ((.int a0') :: (.int a1) :: (.int a2) :: [.int 0, .int 0, .int 0, .int 0, .int 0, .int 0, .int 0, .int 0, .int 0, .int 0, .int 0, .int 0, .int 0]) ((.double (FP.i2d A0)) :: (.double (FP.i2d A1)) :: (.double (FP.i2d A2)) :: [.double 0, .double 0, .double 0, .double 0, .double 0, .double 0, .double 0, .double 0, .double 0, .double 0, .double 0, .double 0, .double 0]) ((.double (FP.i2d B0)) :: (.double (FP.i2d B1)) :: (.double (FP.i2d B2)) :: [.double 0, .double 0, .double 0, .double 0, .double 0, .double 0, .double 0, .double 0, .double 0, .double 0, .double 0, .double 0, .double 0]) f' [(.int q0), (.int q1), (.int q2)] [(.int z201), (.int z210), (.int u2)] [(.int z205), (.int z213), (.int (0 : Int32))] := S
    replace w := w.aload (q := 312) (v := (.ref et)) at_310 rfl rfl rfl
    replace w := w.iload (q := 314) (v := (2 : Int32)) at_312 rfl rfl
    replace w := w.iload (q := 316) (v := v2) at_314 rfl rfl
    obtain ⟨h220, W221, w⟩ := w.stIl (q := 317) (S.2.2.2.2.2.2.2.1) 2 rfl (ltl rfl) (S.ge.2.2.2.2.2.2.2) at_316 rfl
    replace S := S.setEt W221
    replace S : Sr Z h220 n0 a ph sg tg rw ep es et s ((.int a0') :: (.int a1) :: (.int a2) :: [.int 0, .int 0, .int 0, .int 0, .int 0, .int 0, .int 0, .int 0, .int 0, .int 0, .int 0, .int 0, .int 0]) ((.double (FP.i2d A0)) :: (.double (FP.i2d A1)) :: (.double (FP.i2d A2)) :: [.double 0, .double 0, .double 0, .double 0, .double 0, .double 0, .double 0, .double 0, .double 0, .double 0, .double 0, .double 0, .double 0]) ((.double (FP.i2d B0)) :: (.double (FP.i2d B1)) :: (.double (FP.i2d B2)) :: [.double 0, .double 0, .double 0, .double 0, .double 0, .double 0, .double 0, .double 0, .double 0, .double 0, .double 0, .double 0, .double 0]) f' [(.int q0), (.int q1), (.int q2)] [(.int z201), (.int z210), (.int u2)] [(.int z205), (.int z213), (.int v2)] := S
    replace w := w.iinc (q := 320) (z := (3 : Int32)) (l' := #[.val (.int x0), .val (.int x1), .val (.int x2), .val (.int x3), .val (.int q0), .val (.int q1), .val (.int q2), .val (.int u0), .val (.int v0), .val (.int u1), .val (.int v1), .val (.int u2), .val (.int v2), .val (.ref rw), .val (.ref ep), .val (.ref es), .val (.ref et), .val (.ref a), .val (.int (3 : Int32)), .unset]) at_317 rfl (by decide) rfl rfl
    replace w := w.aload (q := 322) (v := (.ref a)) at_320 rfl rfl rfl
    obtain ⟨_, _, ⟨rfl, eh⟩, w⟩ := w.callV (a := a) (y := (⟨"com/example/weaverbird/weaverbird/paraphrases/SourceRows", "size", "()I"⟩ : MethodName)) (argsL := []) (rest := []) (own_size l Z a0 hw _ n0 S.z0 a ph sg tg rw ep es et _ _ _ _ _ _ _ _ S) (S.1.1) (hw _ (List.mem_of_getElem? (i := 30) rfl)) (hw _ (List.mem_of_getElem? (i := 31) rfl)) (hw _ (List.mem_of_getElem? (i := 33) rfl)) (hw _ (List.mem_of_getElem? (i := 32) rfl)) (hw _ (List.mem_of_getElem? (i := 4) rfl)) (hw _ (List.mem_of_getElem? (i := 34) rfl)) (by decide) at_322 (lenOf pd_5 rfl) rfl rfl (by decide) (W := 0) (Nat.le_of_eq rfl) (by decide) (by decide) (by decide) (q := 325) rfl
    rw [eh] at w
    replace w := w [(.int s)] rfl
    replace w := w.iload (q := 327) (v := (3 : Int32)) at_325 rfl rfl
    obtain ⟨hc327, w⟩ := (w.icmpNe (q := 366) (q' := 330) (xi := s.toInt) (yi := 3) at_327 rfl rfl (by decide) (by decide) rfl).resolve_left (fun g => by have hc327 := g.1; omega)
    replace w := w.aload (q := 332) (v := (.ref rw)) at_330 rfl rfl rfl
    replace w := w.iconst (q := 333) (z := (0 : Int32)) at_332 (by decide) rfl
    replace w := ldF (q := 334) (x := -1) w (S.2.2.2.2.1) 0 rfl (by decide) (hf' 0) at_333 rfl
    replace w := w.iconst (q := 335) (z := (-1 : Int32)) at_334 (by decide) rfl
    obtain ⟨-, w⟩ := (w.icmpNe (q := 366) (q' := 338) (xi := - 1) (yi := - 1) at_335 rfl rfl (by decide) (by decide) rfl).resolve_left (fun g => by have hc335 := g.1; revert hc335; decide)
    replace w := w.aload (q := 340) (v := (.ref rw)) at_338 rfl rfl rfl
    replace w := w.iconst (q := 341) (z := (1 : Int32)) at_340 (by decide) rfl
    replace w := ldF (q := 342) (x := -1) w (S.2.2.2.2.1) 1 rfl (by decide) (hf' 1) at_341 rfl
    replace w := w.iconst (q := 343) (z := (-1 : Int32)) at_342 (by decide) rfl
    obtain ⟨-, w⟩ := (w.icmpNe (q := 366) (q' := 346) (xi := - 1) (yi := - 1) at_343 rfl rfl (by decide) (by decide) rfl).resolve_left (fun g => by have hc343 := g.1; revert hc343; decide)
    replace w := w.aload (q := 348) (v := (.ref rw)) at_346 rfl rfl rfl
    replace w := w.iconst (q := 349) (z := (2 : Int32)) at_348 (by decide) rfl
    replace w := ldF (q := 350) (x := -1) w (S.2.2.2.2.1) 2 rfl (by decide) (hf' 2) at_349 rfl
    replace w := w.iconst (q := 351) (z := (-1 : Int32)) at_350 (by decide) rfl
    obtain ⟨-, w⟩ := (w.icmpNe (q := 366) (q' := 354) (xi := - 1) (yi := - 1) at_351 rfl rfl (by decide) (by decide) rfl).resolve_left (fun g => by have hc351 := g.1; revert hc351; decide)
    replace w := w.aload (q := 356) (v := (.ref rw)) at_354 rfl rfl rfl
    replace w := w.iconst (q := 357) (z := (3 : Int32)) at_356 (by decide) rfl
    replace w := ldF (q := 358) (x := -1) w (S.2.2.2.2.1) 3 rfl (by decide) (hf' 3) at_357 rfl
    replace w := w.iconst (q := 359) (z := (-1 : Int32)) at_358 (by decide) rfl
    obtain ⟨-, w⟩ := (w.icmpNe (q := 366) (q' := 362) (xi := - 1) (yi := - 1) at_359 rfl rfl (by decide) (by decide) rfl).resolve_left (fun g => by have hc359 := g.1; revert hc359; decide)
    replace w := w.iconst (q := 363) (z := (1 : Int32)) at_362 (by decide) rfl
    replace w := w.goto (q := 367) at_363 (by decide) (by decide)
    replace w := w.istore (q := 369) (l' := #[.val (.int x0), .val (.int x1), .val (.int x2), .val (.int x3), .val (.int q0), .val (.int q1), .val (.int q2), .val (.int u0), .val (.int v0), .val (.int u1), .val (.int v1), .val (.int u2), .val (.int v2), .val (.ref rw), .val (.ref ep), .val (.ref es), .val (.ref et), .val (.ref a), .val (.int (3 : Int32)), .val (.int (1 : Int32))]) at_367 rfl rfl
    replace w := w.iload (q := 371) (v := (1 : Int32)) at_369 rfl rfl
    obtain ⟨-, w⟩ := (w.ifEq (q := 393) (q' := 374) (xi := 1) at_371 rfl (by decide) (by decide) rfl).resolve_left (fun g => by have hc371 := g.1; revert hc371; decide)
    replace w := w.aload (q := 376) (v := (.ref a)) at_374 rfl rfl rfl
    replace w := w.iconst (q := 377) (z := (0 : Int32)) at_376 (by decide) rfl
    replace w := w.aload (q := 379) (v := (.ref ep)) at_377 rfl rfl rfl
    replace w := w.aload (q := 381) (v := (.ref es)) at_379 rfl rfl rfl
    replace w := w.aload (q := 383) (v := (.ref et)) at_381 rfl rfl rfl
    obtain ⟨_, _, ⟨rfl, eh⟩, w⟩ := w.callS (y := (⟨"com/example/weaverbird/weaverbird/paraphrases/SourceRowsGatherByPhrasePinLaw", "row", "(Lcom/example/weaverbird/weaverbird/paraphrases/SourceRows;I[I[I[I)Z"⟩ : MethodName)) (argsL := [(.ref a), (.int (0 : Int32)), (.ref ep), (.ref es), (.ref et)]) (rest := []) (own_row l Z a0 hw _ n0 S.z0 a ph sg tg rw ep es et _ _ _ _ _ _ _ _ 0 0 a0' A0 B0 q0 z201 z205 S rfl rfl rfl rfl rfl rfl rfl (by omega) (by omega) (by omega)) (hw _ (List.mem_of_getElem? (i := 35) rfl)) (hw _ (List.mem_of_getElem? (i := 36) rfl)) (hw _ (List.mem_of_getElem? (i := 37) rfl)) (hw _ (List.mem_of_getElem? (i := 38) rfl)) (by decide) at_383 (lenOf pd_6 rfl) rfl rfl (by decide) (W := 0) (Nat.le_of_eq rfl) (by decide) (by decide) (by decide) (q := 386) rfl
    rw [eh] at w
    replace w := w [(.int (1 : Int32))] rfl
    obtain ⟨-, w⟩ := (w.ifEq (q := 393) (q' := 389) (xi := 1) at_386 rfl (by decide) (by decide) rfl).resolve_left (fun g => by have hc386 := g.1; revert hc386; decide)
    replace w := w.iconst (q := 390) (z := (1 : Int32)) at_389 (by decide) rfl
    replace w := w.goto (q := 394) at_390 (by decide) (by decide)
    replace w := w.istore (q := 396) (l' := #[.val (.int x0), .val (.int x1), .val (.int x2), .val (.int x3), .val (.int q0), .val (.int q1), .val (.int q2), .val (.int u0), .val (.int v0), .val (.int u1), .val (.int v1), .val (.int u2), .val (.int v2), .val (.ref rw), .val (.ref ep), .val (.ref es), .val (.ref et), .val (.ref a), .val (.int (3 : Int32)), .val (.int (1 : Int32))]) at_394 rfl rfl
    replace w := w.iload (q := 398) (v := (1 : Int32)) at_396 rfl rfl
    obtain ⟨-, w⟩ := (w.ifEq (q := 426) (q' := 401) (xi := 1) at_398 rfl (by decide) (by decide) rfl).resolve_left (fun g => by have hc398 := g.1; revert hc398; decide)
    replace w := w.iload (q := 403) (v := (3 : Int32)) at_401 rfl rfl
    replace w := w.iconst (q := 404) (z := (2 : Int32)) at_403 (by decide) rfl
    obtain ⟨-, w⟩ := (w.icmpLt (q := 422) (q' := 407) (xi := 3) (yi := 2) at_404 rfl rfl (by decide) (by decide) rfl).resolve_left (fun g => by have hc404 := g.1; revert hc404; decide)
    replace w := w.aload (q := 409) (v := (.ref a)) at_407 rfl rfl rfl
    replace w := w.iconst (q := 410) (z := (1 : Int32)) at_409 (by decide) rfl
    replace w := w.aload (q := 412) (v := (.ref ep)) at_410 rfl rfl rfl
    replace w := w.aload (q := 414) (v := (.ref es)) at_412 rfl rfl rfl
    replace w := w.aload (q := 416) (v := (.ref et)) at_414 rfl rfl rfl
    obtain ⟨_, _, ⟨rfl, eh⟩, w⟩ := w.callS (y := (⟨"com/example/weaverbird/weaverbird/paraphrases/SourceRowsGatherByPhrasePinLaw", "row", "(Lcom/example/weaverbird/weaverbird/paraphrases/SourceRows;I[I[I[I)Z"⟩ : MethodName)) (argsL := [(.ref a), (.int (1 : Int32)), (.ref ep), (.ref es), (.ref et)]) (rest := []) (own_row l Z a0 hw _ n0 S.z0 a ph sg tg rw ep es et _ _ _ _ _ _ _ _ 1 1 a1 A1 B1 q1 z210 z213 S rfl rfl rfl rfl rfl rfl rfl (by omega) (by omega) (by omega)) (hw _ (List.mem_of_getElem? (i := 35) rfl)) (hw _ (List.mem_of_getElem? (i := 36) rfl)) (hw _ (List.mem_of_getElem? (i := 37) rfl)) (hw _ (List.mem_of_getElem? (i := 38) rfl)) (by decide) at_416 (lenOf pd_6 rfl) rfl rfl (by decide) (W := 0) (Nat.le_of_eq rfl) (by decide) (by decide) (by decide) (q := 419) rfl
    rw [eh] at w
    replace w := w [(.int (1 : Int32))] rfl
    obtain ⟨-, w⟩ := (w.ifEq (q := 426) (q' := 422) (xi := 1) at_419 rfl (by decide) (by decide) rfl).resolve_left (fun g => by have hc419 := g.1; revert hc419; decide)
    replace w := w.iconst (q := 423) (z := (1 : Int32)) at_422 (by decide) rfl
    replace w := w.goto (q := 427) at_423 (by decide) (by decide)
    replace w := w.istore (q := 429) (l' := #[.val (.int x0), .val (.int x1), .val (.int x2), .val (.int x3), .val (.int q0), .val (.int q1), .val (.int q2), .val (.int u0), .val (.int v0), .val (.int u1), .val (.int v1), .val (.int u2), .val (.int v2), .val (.ref rw), .val (.ref ep), .val (.ref es), .val (.ref et), .val (.ref a), .val (.int (3 : Int32)), .val (.int (1 : Int32))]) at_427 rfl rfl
    replace w := w.iload (q := 431) (v := (1 : Int32)) at_429 rfl rfl
    obtain ⟨-, w⟩ := (w.ifEq (q := 459) (q' := 434) (xi := 1) at_431 rfl (by decide) (by decide) rfl).resolve_left (fun g => by have hc431 := g.1; revert hc431; decide)
    replace w := w.iload (q := 436) (v := (3 : Int32)) at_434 rfl rfl
    replace w := w.iconst (q := 437) (z := (3 : Int32)) at_436 (by decide) rfl
    obtain ⟨-, w⟩ := (w.icmpLt (q := 455) (q' := 440) (xi := 3) (yi := 3) at_437 rfl rfl (by decide) (by decide) rfl).resolve_left (fun g => by have hc437 := g.1; revert hc437; decide)
    replace w := w.aload (q := 442) (v := (.ref a)) at_440 rfl rfl rfl
    replace w := w.iconst (q := 443) (z := (2 : Int32)) at_442 (by decide) rfl
    replace w := w.aload (q := 445) (v := (.ref ep)) at_443 rfl rfl rfl
    replace w := w.aload (q := 447) (v := (.ref es)) at_445 rfl rfl rfl
    replace w := w.aload (q := 449) (v := (.ref et)) at_447 rfl rfl rfl
    obtain ⟨_, _, ⟨rfl, eh⟩, w⟩ := w.callS (y := (⟨"com/example/weaverbird/weaverbird/paraphrases/SourceRowsGatherByPhrasePinLaw", "row", "(Lcom/example/weaverbird/weaverbird/paraphrases/SourceRows;I[I[I[I)Z"⟩ : MethodName)) (argsL := [(.ref a), (.int (2 : Int32)), (.ref ep), (.ref es), (.ref et)]) (rest := []) (own_row l Z a0 hw _ n0 S.z0 a ph sg tg rw ep es et _ _ _ _ _ _ _ _ 2 2 a2 A2 B2 q2 u2 v2 S rfl rfl rfl rfl rfl rfl rfl (by omega) (by omega) (by omega)) (hw _ (List.mem_of_getElem? (i := 35) rfl)) (hw _ (List.mem_of_getElem? (i := 36) rfl)) (hw _ (List.mem_of_getElem? (i := 37) rfl)) (hw _ (List.mem_of_getElem? (i := 38) rfl)) (by decide) at_449 (lenOf pd_6 rfl) rfl rfl (by decide) (W := 0) (Nat.le_of_eq rfl) (by decide) (by decide) (by decide) (q := 452) rfl
    rw [eh] at w
    replace w := w [(.int (1 : Int32))] rfl
    obtain ⟨-, w⟩ := (w.ifEq (q := 459) (q' := 455) (xi := 1) at_452 rfl (by decide) (by decide) rfl).resolve_left (fun g => by have hc452 := g.1; revert hc452; decide)
    replace w := w.iconst (q := 456) (z := (1 : Int32)) at_455 (by decide) rfl
    replace w := w.goto (q := 460) at_456 (by decide) (by decide)
    replace w := w.istore (q := 462) (l' := #[.val (.int x0), .val (.int x1), .val (.int x2), .val (.int x3), .val (.int q0), .val (.int q1), .val (.int q2), .val (.int u0), .val (.int v0), .val (.int u1), .val (.int v1), .val (.int u2), .val (.int v2), .val (.ref rw), .val (.ref ep), .val (.ref es), .val (.ref et), .val (.ref a), .val (.int (3 : Int32)), .val (.int (1 : Int32))]) at_460 rfl rfl
    replace w := w.iload (q := 464) (v := (1 : Int32)) at_462 rfl rfl
    exact w.retZ at_464 (z := 1) (by decide) rfl (by decide) (by decide)
set_option maxRecDepth 65536 in
set_option maxHeartbeats 40000000 in
theorem comes_1 {Post : Tables → Env → Array Value → State → Outcome → State → Prop} (hpost : ∀ tb e args s v u, (limb_1_1.after args s (.returned v) u = true ∧ limb_1_2.after args s (.returned v) u = true ∧ True) → FrameEnd s (.returned v) u (Jvm.fieldLocs frame_1_writes args s ++ Jvm.arrayLocs frame_1_arrays args s ++ Jvm.staticLocs frame_1_statics s) 24 256 → Post tb e args s (.returned v) u) :
    ArmFor flags0 classFile x code maxLocals ret World_1 tables_1 room_1 Calls_1 rest_1 Pre_1 Post := by
  intro l hfl _ _ p e ha hc hk s m args below hf hA hF happ hP
  obtain ⟨hcalls, hrest, hpre⟩ := hP
  obtain ⟨-, -, -, hnamed, -, -, -, hat⟩ := (Spec.applies_iff hf).mp happ
  obtain ⟨hg, hn⟩ := and_e (Cond.before_iff.mp (show (Jvm.Cond.and given_1 narrow_1).before args s = true from hpre))
  obtain ⟨hg0, hk0⟩ := and_e hg
  obtain ⟨g0, hk1⟩ := and_e hk0
  obtain ⟨g1, hk2⟩ := and_e hk1
  obtain ⟨g2, hk3⟩ := and_e hk2
  obtain ⟨v0, v1, v2, v3, rfl⟩ : ∃ v0 v1 v2 v3 : Value, args = #[v0, v1, v2, v3] := by
    have hs : args.size = 4 := by simpa [Cond.value, given_1] using hg0
    obtain ⟨L⟩ := args
    match L, hs with
    | [v0, v1, v2, v3], _ => exact ⟨v0, v1, v2, v3, rfl⟩
  have hw := fun d (hd : d ∈ tables_1) => atoms_spec (ws := Jvm.Cond.code x code maxLocals ret :: tables_1) hat d (List.mem_cons_of_mem _ hd)
  obtain ⟨i0, e0⟩ := is_v g0
  obtain rfl : v0 = (.int i0) := Option.some.inj e0
  obtain ⟨i1, e1⟩ := is_v g1
  obtain rfl : v1 = (.int i1) := Option.some.inj e1
  obtain ⟨i2, e2⟩ := is_v g2
  obtain rfl : v2 = (.int i2) := Option.some.inj e2
  obtain ⟨i3, e3⟩ := is_v hk3
  obtain rfl : v3 = (.int i3) := Option.some.inj e3
  obtain ⟨n, o, h1, h2, h3, _, L, rfl, ⟨hv, N⟩, hq⟩ := own_law l s _ hw s.heap s.heap.size (Nat.le_refl _) i0 i1 i2 i3  tables_1 p e ha hc hk s m _ below hf ((Spec.applies_iff_loose hf).mp happ).1 ⟨rfl, State.Warmed39.refl s, rfl⟩ trivial
  subst hv
  refine ⟨n, _, h1, h2, h3, hpost _ _ _ _ _ _ ⟨Cond.after_iff.mpr rfl, Cond.after_iff.mpr (eq_i res_at (Term.int_eval (1)) rfl), trivial⟩ ⟨hq.1, hq.2.1, (hq.2.2.sift fun y hy => Or.inr (N y hy)).mono (by decide) (by decide)⟩⟩
theorem main_1_1 : Claimed_1_1 := comes_1 fun _ _ _ _ _ _ h hF => ⟨h.1, hF⟩
theorem main_1_2 : Claimed_1_2 := comes_1 fun _ _ _ _ _ _ h hF => ⟨h.2.1, hF⟩
end Jvm.Pilot.@@N@@
namespace Jvm.Pilot.@@N@@
open Jvm Jvm.ClassFile Sem Op Lib Jvm.Free Jvm.Stand Jvm.Pilot.@@N@@.Jvm.D
/-! MADE BY PROGRAM (witnessworld.py) out of the Statement's table words and the real class files: 11 classes; the members and pool entries that the words name. The judged class is class 1, her method 1. -/
namespace start1
open Jvm.ClassFile
def u (s : String) : CpInfo := .utf8 (stringToUtf16 s)
/-- a pool by its gaps: so many unusable entries, then the entry; so many at the end -/
def gap : Nat → List CpInfo → List CpInfo
  | 0, r => r
  | n + 1, r => .unusable :: gap n r
def poolList (es : List (Nat × CpInfo)) (last : Nat) : List CpInfo := es.foldr (fun e r => gap e.1 (e.2 :: r)) (gap last [])
def pool (es : List (Nat × CpInfo)) (last : Nat) : Array CpInfo := ⟨poolList es last⟩
def fileOf (pool : Array CpInfo) (this : Nat) (attrs : Array Attribute := #[]) (ms : Array MethodInfo := #[]) (fl : Nat := 33) (sup : Nat := 0) (ifs : Array Nat := #[]) (fds : Array FieldInfo := #[]) : ClassFile where
  minorVersion := 0
  majorVersion := 65
  constantPool := pool
  accessFlags := fl
  thisClass := this
  superClass := sup
  interfaces := ifs
  fields := fds
  methods := ms
  attributes := attrs
def plain (name : String) (sup : Option ClassId) : Class where
  name := name
  kind := .ordinary
  loader := none
  accessFlags := 33
  super := sup
  interfaces := #[]
  cf := none
  fields := #[]
  methods := #[]
  instanceTypes := #[]
  staticTypes := #[]
  resolved := #[]
  callSites := []
  init := .initialized
  statics := none
  mirror := none

def pool0 : Array CpInfo := pool [(5, u "<init>"), (0, u "()V"), (1, .class_ 10), (1, u "java/lang/Object")] 113

def k0c0 : Code := { maxStack := 0, maxLocals := 1, code := object_method_1_code, exceptionTable := #[], attributes := #[] }
def k0m0 : Method := { name := "<init>", desc := "()V", sig := { parameters := [], returnType := none }, accessFlags := 1, code := some k0c0 }
/-- java/lang/Object -/
def k0 : Class := { plain "java/lang/Object" none with
  accessFlags := 33
  interfaces := #[]
  cf := some (fileOf pool0 8 #[] #[{ accessFlags := 1, nameIndex := 5, descriptorIndex := 6, attributes := #[] }] 33 0 #[] #[])
  fields := #[]
  methods := #[k0m0]
  instanceTypes := #[]
  staticTypes := #[]
  resolved := Array.replicate 124 none
  statics := none }

def pool1 : Array CpInfo := pool [(2, .class_ 4), (0, .nameAndType 5 6), (0, u "java/lang/Object"), (0, u "<init>"), (0, u "()V"), (0, .integer 65535), (0, .class_ 9), (0, u "com/example/weaverbird/weaverbird/paraphrases/SourceRows"), (0, .methodref 8 3), (0, .methodref 8 12), (0, .nameAndType 13 14), (0, u "add"), (0, u "(IDD)V"), (0, .methodref 8 16), (0, .nameAndType 17 18), (0, u "gatherByPhrase"), (0, u "([I)V"), (0, .methodref 8 20), (0, .nameAndType 21 22), (0, u "size"), (0, u "()I"), (0, .methodref 24 25), (0, .class_ 26), (0, .nameAndType 27 28), (0, u "com/example/weaverbird/weaverbird/paraphrases/SourceRowsGatherByPhrasePinLaw"), (0, u "row"), (0, u "(Lcom/example/weaverbird/weaverbird/paraphrases/SourceRows;I[I[I[I)Z"), (0, .methodref 8 30), (0, .nameAndType 31 32), (0, u "phrase"), (0, u "(I)I"), (0, .methodref 8 34), (0, .nameAndType 35 36), (0, u "sourceGivenTarget"), (0, u "(I)D"), (0, .methodref 8 38), (0, .nameAndType 39 36), (0, u "targetGivenSource"), (2, u "law"), (0, u "(IIII)Z")] 5

def k1m0 : Method := { name := "<init>", desc := "()V", sig := { parameters := [], returnType := none }, accessFlags := 1, code := none }
def k1c1 : Code := { maxStack := 6, maxLocals := 20, code := code, exceptionTable := #[], attributes := #[] }
def k1m1 : Method := { name := "law", desc := "(IIII)Z", sig := { parameters := [.int, .int, .int, .int], returnType := some .boolean }, accessFlags := 9, code := some k1c1 }
def k1c2 : Code := { maxStack := 4, maxLocals := 5, code := method_3_code, exceptionTable := #[], attributes := #[] }
def k1m2 : Method := { name := "row", desc := "(Lcom/example/weaverbird/weaverbird/paraphrases/SourceRows;I[I[I[I)Z", sig := { parameters := [(.object "com/example/weaverbird/weaverbird/paraphrases/SourceRows"), .int, (.array .int), (.array .int), (.array .int)], returnType := some .boolean }, accessFlags := 10, code := some k1c2 }
/-- com/example/weaverbird/weaverbird/paraphrases/SourceRowsGatherByPhrasePinLaw -/
def k1 : Class := { plain "com/example/weaverbird/weaverbird/paraphrases/SourceRowsGatherByPhrasePinLaw" (some 0) with
  accessFlags := 49
  interfaces := #[]
  cf := some (fileOf pool1 24 #[] #[{ accessFlags := 1, nameIndex := 5, descriptorIndex := 6, attributes := #[] }, { accessFlags := 9, nameIndex := 42, descriptorIndex := 43, attributes := #[] }, { accessFlags := 10, nameIndex := 27, descriptorIndex := 28, attributes := #[] }] 49 2 #[] #[])
  fields := #[]
  methods := #[k1m0, k1m1, k1m2]
  instanceTypes := #[]
  staticTypes := #[]
  resolved := Array.replicate 49 none
  statics := none }

def pool2 : Array CpInfo := pool [(1, .methodref 2 3), (0, .class_ 4), (0, .nameAndType 5 6), (0, u "java/lang/Object"), (0, u "<init>"), (0, u "()V"), (0, .fieldref 8 9), (0, .class_ 10), (0, .nameAndType 11 12), (0, u "com/example/weaverbird/weaverbird/paraphrases/SourceRows"), (0, u "phrases"), (0, u "[I"), (0, .fieldref 8 14), (0, .nameAndType 15 16), (0, u "sourceGivenTarget"), (0, u "[D"), (0, .fieldref 8 18), (0, .nameAndType 19 16), (0, u "targetGivenSource"), (0, .fieldref 8 21), (0, .nameAndType 22 23), (0, u "size"), (0, u "I"), (11, u "add"), (0, u "(IDD)V"), (17, u "()I"), (10, u "phrase"), (0, u "(I)I"), (0, u "(I)D"), (0, u "gatherByPhrase"), (0, u "([I)V")] 30

def k2c0 : Code := { maxStack := 2, maxLocals := 1, code := prog_106_method_1_code, exceptionTable := #[], attributes := #[] }
def k2m0 : Method := { name := "<init>", desc := "()V", sig := { parameters := [], returnType := none }, accessFlags := 0, code := some k2c0 }
def k2c1 : Code := { maxStack := 4, maxLocals := 6, code := prog_106_method_2_code, exceptionTable := #[], attributes := #[] }
def k2m1 : Method := { name := "add", desc := "(IDD)V", sig := { parameters := [.int, .double, .double], returnType := none }, accessFlags := 0, code := some k2c1 }
def k2c2 : Code := { maxStack := 1, maxLocals := 1, code := prog_106_method_4_code, exceptionTable := #[], attributes := #[] }
def k2m2 : Method := { name := "size", desc := "()I", sig := { parameters := [], returnType := some .int }, accessFlags := 0, code := some k2c2 }
def k2c3 : Code := { maxStack := 2, maxLocals := 2, code := prog_106_method_5_code, exceptionTable := #[], attributes := #[] }
def k2m3 : Method := { name := "phrase", desc := "(I)I", sig := { parameters := [.int], returnType := some .int }, accessFlags := 0, code := some k2c3 }
def k2c4 : Code := { maxStack := 2, maxLocals := 2, code := prog_106_method_6_code, exceptionTable := #[], attributes := #[] }
def k2m4 : Method := { name := "sourceGivenTarget", desc := "(I)D", sig := { parameters := [.int], returnType := some .double }, accessFlags := 0, code := some k2c4 }
def k2c5 : Code := { maxStack := 2, maxLocals := 2, code := prog_106_method_7_code, exceptionTable := #[], attributes := #[] }
def k2m5 : Method := { name := "targetGivenSource", desc := "(I)D", sig := { parameters := [.int], returnType := some .double }, accessFlags := 0, code := some k2c5 }
def k2c6 : Code := { maxStack := 6, maxLocals := 6, code := prog_106_method_8_code, exceptionTable := #[], attributes := #[] }
def k2m6 : Method := { name := "gatherByPhrase", desc := "([I)V", sig := { parameters := [(.array .int)], returnType := none }, accessFlags := 0, code := some k2c6 }
/-- com/example/weaverbird/weaverbird/paraphrases/SourceRows -/
def k2 : Class := { plain "com/example/weaverbird/weaverbird/paraphrases/SourceRows" (some 0) with
  accessFlags := 48
  interfaces := #[]
  cf := some (fileOf pool2 8 #[] #[{ accessFlags := 0, nameIndex := 5, descriptorIndex := 6, attributes := #[] }, { accessFlags := 0, nameIndex := 35, descriptorIndex := 36, attributes := #[] }, { accessFlags := 0, nameIndex := 22, descriptorIndex := 54, attributes := #[] }, { accessFlags := 0, nameIndex := 65, descriptorIndex := 66, attributes := #[] }, { accessFlags := 0, nameIndex := 15, descriptorIndex := 67, attributes := #[] }, { accessFlags := 0, nameIndex := 19, descriptorIndex := 67, attributes := #[] }, { accessFlags := 0, nameIndex := 68, descriptorIndex := 69, attributes := #[] }] 48 2 #[] #[{ accessFlags := 2, nameIndex := 11, descriptorIndex := 12, attributes := #[] }, { accessFlags := 2, nameIndex := 15, descriptorIndex := 16, attributes := #[] }, { accessFlags := 2, nameIndex := 19, descriptorIndex := 16, attributes := #[] }, { accessFlags := 2, nameIndex := 22, descriptorIndex := 23, attributes := #[] }])
  fields := #[{ name := "phrases", type := (.array .int), accessFlags := 2, slot := 0, constantValue := 0 }, { name := "sourceGivenTarget", type := (.array .double), accessFlags := 2, slot := 1, constantValue := 0 }, { name := "targetGivenSource", type := (.array .double), accessFlags := 2, slot := 2, constantValue := 0 }, { name := "size", type := .int, accessFlags := 2, slot := 3, constantValue := 0 }]
  methods := #[k2m0, k2m1, k2m2, k2m3, k2m4, k2m5, k2m6]
  instanceTypes := #[(.array .int), (.array .double), (.array .double), .int]
  staticTypes := #[]
  resolved := Array.replicate 100 none
  statics := none }

def pool3 : Array CpInfo := pool [(1, u "java/lang/Cloneable"), (0, .class_ 1), (0, u "java/lang/Object"), (0, .class_ 3)] 3

/-- java/lang/Cloneable -/
def k3 : Class := { plain "java/lang/Cloneable" (some 0) with
  accessFlags := 1537
  interfaces := #[]
  cf := some (fileOf pool3 2 #[] #[] 1537 4 #[] #[])
  fields := #[]
  methods := #[]
  instanceTypes := #[]
  staticTypes := #[]
  resolved := Array.replicate 8 none
  statics := none }

def pool4 : Array CpInfo := pool [(1, u "java/io/Serializable"), (0, .class_ 1), (0, u "java/lang/Object"), (0, .class_ 3)] 3

/-- java/io/Serializable -/
def k4 : Class := { plain "java/io/Serializable" (some 0) with
  accessFlags := 1537
  interfaces := #[]
  cf := some (fileOf pool4 2 #[] #[] 1537 4 #[] #[])
  fields := #[]
  methods := #[]
  instanceTypes := #[]
  staticTypes := #[]
  resolved := Array.replicate 8 none
  statics := none }

/-- the primitive byte -/
def k5 : Class := { plain "byte" none with kind := .primitive 'B', accessFlags := 0x411 }
/-- [B -/
def k6 : Class := { plain "[B" (some 0) with kind := .array 5 .byte, interfaces := #[3, 4], accessFlags := 1041 }

/-- the primitive double -/
def k7 : Class := { plain "double" none with kind := .primitive 'D', accessFlags := 0x411 }
/-- [D -/
def k8 : Class := { plain "[D" (some 0) with kind := .array 7 .double, interfaces := #[3, 4], accessFlags := 1041 }

/-- the primitive int -/
def k9 : Class := { plain "int" none with kind := .primitive 'I', accessFlags := 0x411 }
/-- [I -/
def k10 : Class := { plain "[I" (some 0) with kind := .array 9 .int, interfaces := #[3, 4], accessFlags := 1041 }

def heap : Heap := #[]
def classes : Array Class := #[k0, k1, k2, k3, k4, k5, k6, k7, k8, k9, k10]
def interned : List (Array UInt16 × Addr) := []
def slotsUsed : Nat := 0
def theMethod : MethodId := ⟨1, 1⟩
def args0 : Array Value := #[.int 1, .int 2, .int 5, .int 4]
def aboutOver (below : List Frame) : State where
  vm := { classes := classes, interned := interned.toArray }
  heap := heap
  slotsUsed := slotsUsed
  threads := #[{ frames := .invoking theMethod args0 :: below }]
def below0 : List Frame := [.native { method := ⟨0, 0⟩, args := #[] }]
def about1 : State := aboutOver below0
def p0 : Program := .bare "" "" ""
def e0 : Env := launch0.env 0 0 0
theorem w_frames : about1.frames = Frame.invoking theMethod args0 :: below0 := rfl
set_option maxRecDepth 65536 in
theorem w_args : argsFit about1.vm theMethod args0 = true := by decide +kernel
set_option maxRecDepth 65536 in
theorem w_heap : heapFits about1 = true := by decide +kernel
set_option maxRecDepth 65536 in
theorem w_runnable : about1.curStatus? = some .runnable := by decide +kernel
set_option maxRecDepth 65536 in
theorem w_alone : about1.alone = true := by decide +kernel
set_option maxRecDepth 65536 in
theorem w_named : about1.methodNamed? x = some theMethod := by decide +kernel
set_option maxRecDepth 65536 in
theorem w_hears : about1.hears theMethod below0 = true := by decide +kernel
set_option maxRecDepth 65536 in
theorem w_ripe : about1.ripe theMethod args0 below0 = true := by decide +kernel
theorem w_running : about1.status = .running := rfl
set_option maxRecDepth 65536 in
theorem w_room : about1.hasRoom e0.platform room_1 = true :=
  launch0.hasRoom_least _ room_1 (by decide +kernel) (by decide +kernel) (by decide +kernel) (by decide +kernel) (by decide +kernel) (by decide +kernel)
theorem allAtoms_all (ts : List Jvm.Cond) (a : Array Jvm.Value) (st : Jvm.State) : (allAtoms ts).before a st = ts.all (fun c => c.before a st) := by
  induction ts with
  | nil => rfl
  | cons c t ih =>
    show (Jvm.Cond.and c (allAtoms t)).before a st = _
    rw [Jvm.Cond.before_and, ih, List.all_cons]
def words1 : List Jvm.Cond := Jvm.Cond.code x code maxLocals ret :: tables_1
/-- a 'code' word, met by the world's own term for the bytes: nothing is compared byte by byte -/
theorem code_word {y : MethodName} {bytes : ByteArray} {mx : Nat} {rt : Option FieldType} {a : Array Value} {s : State} {m : MethodId} {meth : Method} {c : Code} (h1 : s.methodNamed? y = some m) (h2 : s.vm.method? m = some meth) (h3 : meth.code = some c) (h4 : c.code = bytes)
    (h5 : (c.maxLocals == mx && c.exceptionTable.isEmpty && decide (c.maxStack ≤ mostOperands) && decide (meth.sig.returnType = rt) && !meth.locks && decide (parseMethodDescriptor y.desc = some meth.sig)) = true) : (Jvm.Cond.code y bytes mx rt).before a s = true := by
  simp only [Bool.and_eq_true, beq_iff_eq, Bool.not_eq_true', decide_eq_true_eq] at h5
  obtain ⟨⟨⟨⟨⟨g1, g2⟩, g3⟩, g4⟩, g5⟩, g6⟩ := h5
  simp [Cond.before, Cond.holds, Cond.value, h1, h2, h3, h4, g1, g2, g3, g4, g5, g6]
def isCode : Jvm.Cond → Bool
  | .code _ _ _ _ => true
  | _ => false
theorem all_split {L : List Jvm.Cond} {P : Jvm.Cond → Bool} (h1 : L.all (fun c => isCode c || P c) = true) (h2 : ∀ c ∈ L.filter isCode, P c = true) : L.all P = true := by
  refine List.all_eq_true.mpr fun c hc => ?_
  have h := List.all_eq_true.mp h1 c hc
  rcases Bool.eq_false_or_eq_true (isCode c) with hi | hi
  · exact h2 c (List.mem_filter.mpr ⟨hc, hi⟩)
  · simpa [hi] using h
set_option maxRecDepth 65536 in
theorem w_c0 : (Jvm.Cond.code x code maxLocals ret).before args0 about1 = true := code_word (m := ⟨1, 1⟩) (meth := k1m1) (c := k1c1) (by decide +kernel) rfl rfl rfl (by decide +kernel)
set_option maxRecDepth 65536 in
theorem w_c1 : (Jvm.Cond.code ({ cls := "com/example/weaverbird/weaverbird/paraphrases/SourceRows", name := "<init>", desc := "()V" } : Jvm.MethodName) prog_106_method_1_code (1 : Nat) (Option.none : Option Jvm.ClassFile.FieldType)).before args0 about1 = true := code_word (m := ⟨2, 0⟩) (meth := k2m0) (c := k2c0) (by decide +kernel) rfl rfl rfl (by decide +kernel)
set_option maxRecDepth 65536 in
theorem w_c2 : (Jvm.Cond.code ({ cls := "java/lang/Object", name := "<init>", desc := "()V" } : Jvm.MethodName) object_method_1_code (1 : Nat) (Option.none : Option Jvm.ClassFile.FieldType)).before args0 about1 = true := code_word (m := ⟨0, 0⟩) (meth := k0m0) (c := k0c0) (by decide +kernel) rfl rfl rfl (by decide +kernel)
set_option maxRecDepth 65536 in
theorem w_c3 : (Jvm.Cond.code ({ cls := "com/example/weaverbird/weaverbird/paraphrases/SourceRows", name := "add", desc := "(IDD)V" } : Jvm.MethodName) prog_106_method_2_code (6 : Nat) (Option.none : Option Jvm.ClassFile.FieldType)).before args0 about1 = true := code_word (m := ⟨2, 1⟩) (meth := k2m1) (c := k2c1) (by decide +kernel) rfl rfl rfl (by decide +kernel)
set_option maxRecDepth 65536 in
theorem w_c4 : (Jvm.Cond.code ({ cls := "com/example/weaverbird/weaverbird/paraphrases/SourceRows", name := "gatherByPhrase", desc := "([I)V" } : Jvm.MethodName) prog_106_method_8_code (6 : Nat) (Option.none : Option Jvm.ClassFile.FieldType)).before args0 about1 = true := code_word (m := ⟨2, 6⟩) (meth := k2m6) (c := k2c6) (by decide +kernel) rfl rfl rfl (by decide +kernel)
set_option maxRecDepth 65536 in
theorem w_c5 : (Jvm.Cond.code ({ cls := "com/example/weaverbird/weaverbird/paraphrases/SourceRows", name := "size", desc := "()I" } : Jvm.MethodName) prog_106_method_4_code (1 : Nat) (Option.some Jvm.ClassFile.FieldType.int)).before args0 about1 = true := code_word (m := ⟨2, 2⟩) (meth := k2m2) (c := k2c2) (by decide +kernel) rfl rfl rfl (by decide +kernel)
set_option maxRecDepth 65536 in
theorem w_c6 : (Jvm.Cond.code ({ cls := "com/example/weaverbird/weaverbird/paraphrases/SourceRowsGatherByPhrasePinLaw", name := "row", desc := "(Lcom/example/weaverbird/weaverbird/paraphrases/SourceRows;I[I[I[I)Z" } : Jvm.MethodName) method_3_code (5 : Nat) (Option.some Jvm.ClassFile.FieldType.boolean)).before args0 about1 = true := code_word (m := ⟨1, 2⟩) (meth := k1m2) (c := k1c2) (by decide +kernel) rfl rfl rfl (by decide +kernel)
set_option maxRecDepth 65536 in
theorem w_c7 : (Jvm.Cond.code ({ cls := "com/example/weaverbird/weaverbird/paraphrases/SourceRows", name := "phrase", desc := "(I)I" } : Jvm.MethodName) prog_106_method_5_code (2 : Nat) (Option.some Jvm.ClassFile.FieldType.int)).before args0 about1 = true := code_word (m := ⟨2, 3⟩) (meth := k2m3) (c := k2c3) (by decide +kernel) rfl rfl rfl (by decide +kernel)
set_option maxRecDepth 65536 in
theorem w_c8 : (Jvm.Cond.code ({ cls := "com/example/weaverbird/weaverbird/paraphrases/SourceRows", name := "sourceGivenTarget", desc := "(I)D" } : Jvm.MethodName) prog_106_method_6_code (2 : Nat) (Option.some Jvm.ClassFile.FieldType.double)).before args0 about1 = true := code_word (m := ⟨2, 4⟩) (meth := k2m4) (c := k2c4) (by decide +kernel) rfl rfl rfl (by decide +kernel)
set_option maxRecDepth 65536 in
theorem w_c9 : (Jvm.Cond.code ({ cls := "com/example/weaverbird/weaverbird/paraphrases/SourceRows", name := "targetGivenSource", desc := "(I)D" } : Jvm.MethodName) prog_106_method_7_code (2 : Nat) (Option.some Jvm.ClassFile.FieldType.double)).before args0 about1 = true := code_word (m := ⟨2, 5⟩) (meth := k2m5) (c := k2c5) (by decide +kernel) rfl rfl rfl (by decide +kernel)
def codes1 : List Jvm.Cond := [Jvm.Cond.code x code maxLocals ret, Jvm.Cond.code ({ cls := "com/example/weaverbird/weaverbird/paraphrases/SourceRows", name := "<init>", desc := "()V" } : Jvm.MethodName) prog_106_method_1_code (1 : Nat) (Option.none : Option Jvm.ClassFile.FieldType), Jvm.Cond.code ({ cls := "java/lang/Object", name := "<init>", desc := "()V" } : Jvm.MethodName) object_method_1_code (1 : Nat) (Option.none : Option Jvm.ClassFile.FieldType), Jvm.Cond.code ({ cls := "com/example/weaverbird/weaverbird/paraphrases/SourceRows", name := "add", desc := "(IDD)V" } : Jvm.MethodName) prog_106_method_2_code (6 : Nat) (Option.none : Option Jvm.ClassFile.FieldType), Jvm.Cond.code ({ cls := "com/example/weaverbird/weaverbird/paraphrases/SourceRows", name := "gatherByPhrase", desc := "([I)V" } : Jvm.MethodName) prog_106_method_8_code (6 : Nat) (Option.none : Option Jvm.ClassFile.FieldType), Jvm.Cond.code ({ cls := "com/example/weaverbird/weaverbird/paraphrases/SourceRows", name := "size", desc := "()I" } : Jvm.MethodName) prog_106_method_4_code (1 : Nat) (Option.some Jvm.ClassFile.FieldType.int), Jvm.Cond.code ({ cls := "com/example/weaverbird/weaverbird/paraphrases/SourceRowsGatherByPhrasePinLaw", name := "row", desc := "(Lcom/example/weaverbird/weaverbird/paraphrases/SourceRows;I[I[I[I)Z" } : Jvm.MethodName) method_3_code (5 : Nat) (Option.some Jvm.ClassFile.FieldType.boolean), Jvm.Cond.code ({ cls := "com/example/weaverbird/weaverbird/paraphrases/SourceRows", name := "phrase", desc := "(I)I" } : Jvm.MethodName) prog_106_method_5_code (2 : Nat) (Option.some Jvm.ClassFile.FieldType.int), Jvm.Cond.code ({ cls := "com/example/weaverbird/weaverbird/paraphrases/SourceRows", name := "sourceGivenTarget", desc := "(I)D" } : Jvm.MethodName) prog_106_method_6_code (2 : Nat) (Option.some Jvm.ClassFile.FieldType.double), Jvm.Cond.code ({ cls := "com/example/weaverbird/weaverbird/paraphrases/SourceRows", name := "targetGivenSource", desc := "(I)D" } : Jvm.MethodName) prog_106_method_7_code (2 : Nat) (Option.some Jvm.ClassFile.FieldType.double)]
set_option maxRecDepth 65536 in
theorem codes_eq : words1.filter isCode = codes1 := rfl
theorem w_codes : ∀ c ∈ words1.filter isCode, c.before args0 about1 = true := by
  rw [codes_eq]
  intro c hc
  simp only [codes1, List.mem_cons, List.not_mem_nil, or_false] at hc
  rcases hc with rfl | rfl | rfl | rfl | rfl | rfl | rfl | rfl | rfl | rfl
  · exact w_c0
  · exact w_c1
  · exact w_c2
  · exact w_c3
  · exact w_c4
  · exact w_c5
  · exact w_c6
  · exact w_c7
  · exact w_c8
  · exact w_c9
set_option maxRecDepth 65536 in
theorem w_t1 : (words1.take 24).all (fun c => isCode c || c.before args0 about1) = true := by decide +kernel
set_option maxRecDepth 65536 in
theorem w_t2 : ((words1.drop 24).take 24).all (fun c => isCode c || c.before args0 about1) = true := by decide +kernel
set_option maxRecDepth 65536 in
theorem w_t3 : ((words1.drop 24).drop 24).all (fun c => isCode c || c.before args0 about1) = true := by decide +kernel
theorem w_tables : (allAtoms (Jvm.Cond.code x code maxLocals ret :: tables_1)).before args0 about1 = true := by
  rw [allAtoms_all]
  show words1.all (fun c => c.before args0 about1) = true
  refine all_split ?_ w_codes
  rw [← List.take_append_drop 24 words1, List.all_append, w_t1, ← List.take_append_drop 24 (words1.drop 24), List.all_append, w_t2, w_t3]
  rfl
set_option maxRecDepth 65536 in
theorem w_case : (Jvm.Cond.and given_1 narrow_1).before args0 about1 = true := by decide +kernel
theorem w_applies : (headSpec (Jvm.Cond.code x code maxLocals ret :: tables_1) room_1).applies x e0.platform about1 = true :=
  (Spec.applies_iff w_frames).mpr ⟨w_running, w_runnable, w_alone, w_named, w_hears, w_ripe, w_room, w_tables⟩
theorem atStart : AtStart classFile x code maxLocals ret World_1 tables_1 room_1 Calls_1 rest_1 Pre_1 launch0 p0 e0 about1 theMethod args0 below0 :=
  ⟨lists_1, trivial, launch0.admits_env _ _ _, launch0.least_env, fairChoices_fair.cas, fairChoices_fair.clock, w_frames, w_args, w_heap, w_applies, trivial, trivial, w_case⟩
end start1
theorem witness_1 : WitnessClaimed_1 := ⟨start1.p0, start1.e0, start1.about1, start1.theMethod, start1.args0, start1.below0, start1.atStart⟩
end Jvm.Pilot.@@N@@
