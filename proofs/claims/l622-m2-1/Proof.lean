import JvmDerived
import JvmDerived.Pilot.@@N@@Statement
import JvmDerived.Pilot.@@N@@Code
set_option linter.unusedVariables false
set_option linter.unusedSimpArgs false
@@BLOCK:NumsL.lean.txt@@
namespace Jvm.OwnWP
open Sem ClassFile Op Lib Jvm.Free Jvm.Stand Jvm.LawKit Jvm.RoadKit
/-! ## the ghost heap: what the law has made so far, cell by cell -/
/-- a field: the class that declares it, its name, its descriptor, its type -/
abbrev Fd := String × String × String × FieldType
/-- a class: its name, its number of slots, its fields -/
abbrev Sig := List (String × Nat × List Fd)
/-- an object: the number of its class, or an array's element type; the fields' values in the class's order, or the components -/
abbrev Obj := (Nat ⊕ FieldType) × List Value
abbrev Ghost := List Obj
def ObjAt (sig : Sig) (Z : State) (h : Heap) (a : Addr) : Obj → Prop
  | (.inl ci, vs) => ∃ (C : String) (n : Nat) (fs : List Fd), sig[ci]? = some (C, n, fs) ∧ Exa Z h a C ∧ vs.length = fs.length ∧ ∀ (i : Nat) (O nm d : String) (ty : FieldType) (v : Value), fs[i]? = some (O, nm, d, ty) → vs[i]? = some v → Fld Z h a O nm d v
  | (.inr ty, vs) => ∃ c : Cell, Arr Z h a c ty ∧ c.slots.toList = vs ∧ vs.length < 2 ^ 31 ∧ (∀ v ∈ vs, fits ty v = true) ∧ Z.vm.findClass ("[" ++ ty.toString) = some c.cls
def Rep (sig : Sig) (Z : State) (n0 : Nat) (h : Heap) (G : Ghost) : Prop :=
  n0 = Z.heap.size ∧ Ext Z.heap h ∧ h.size = n0 + G.length ∧ ∀ (k : Nat) (o : Obj), G[k]? = some o → ObjAt sig Z h (n0 + k) o
/-- the sheet's words for the classes of `sig` -/
def SigOk (tab : List Jvm.Cond) (sig : Sig) : Prop :=
  ∀ (ci : Nat) (C : String) (n : Nat) (fs : List Fd), sig[ci]? = some (C, n, fs) → Jvm.Cond.instantiable C n ∈ tab ∧ (∀ f ∈ fs, (Jvm.Cond.lays C f.1 f.2.1 f.2.2.1 ∈ tab ∨ Jvm.Cond.laysFinal C f.1 f.2.1 f.2.2.1 ∈ tab) ∧ parseFieldDescriptor f.2.2.1 = some f.2.2.2) ∧ (fs.map (·.2.1)).Nodup
theorem tw {α : Type} {l : List α} (i : Nat) {x : α} (h : l[i]? = some x) : x ∈ l := List.mem_of_getElem? h
abbrev JT := Nat → List Slot → List Value → Ghost → Nat → Nat → Prop
abbrev Post := Option Value → Ghost → Prop
def Fin1 (sig : Sig) (Z : State) (n0 : Nat) (Q : Post) (KC KS : Nat) (p : Program) (e : Env) (below : List Frame) (s : State) (U : State) : Prop :=
  ∃ t o, Steps p.tables e below U t ∧ t.status = .running ∧ Ended t below o ∧ ∃ v L, o = .returned v ∧ (∃ G', Rep sig Z n0 t.heap G' ∧ Q v G' ∧ Fr n0 L) ∧ FrameEnd s o t L KC KS
def Wp (sig : Sig) (Z : State) (n0 : Nat) (Q : Post) (p : Program) (l : Launch) (e : Env) (R : Room) (s : State) (m : MethodId) (args : Array Value) (below : List Frame) (meth : Method) (c : Code) : JT :=
  fun pc Ls S G k sl => ∀ T locs, Stand p l e R s m args below meth c T locs k sl → Rep sig Z n0 T.heap G → Fr n0 locs → Fin1 sig Z n0 Q R.cells R.slots p e below s (T.setTop (mkF m pc Ls.toArray S))
/-- J is the weakest precondition of one body's walk -/
def Walk (tab : List Jvm.Cond) (sig : Sig) (l : Launch) (Z : State) (a0 : Array Value) (n0 : Nat) (own nm : String) (bytes : ByteArray) (maxL : Nat) (ret : Option FieldType) (R : Room) (Q : Post) (J : JT) : Prop :=
  ∃ p e s m args below meth c, J = Wp sig Z n0 Q p l e R s m args below meth c ∧ p.tables.exec = Jvm.exec ∧ c.code = bytes ∧ c.maxLocals = maxL ∧ meth.sig.returnType = ret ∧ meth.locks = false ∧ meth.name = nm ∧ Z.Warmed39 s.vm ∧ s.vm.findClass own = some m.cls ∧ (∀ d ∈ tab, d.before a0 Z = true) ∧ SigOk tab sig
/-- the contract of a method: at the arguments `as` and the ghost heap G it returns, and Q holds of what it returns and of the ghost heap it leaves -/
def Meth (sig : Sig) (l : Launch) (Z : State) (n0 : Nat) (y : MethodName) (bytes : ByteArray) (maxL : Nat) (ret : Option FieldType) (R : Room) (as : List Value) (G : Ghost) (Q : Post) : Prop :=
  ∀ (ws : List Jvm.Cond) (h0 : Heap), Rep sig Z n0 h0 G → MetFree l y (head1 (Jvm.Cond.code y bytes maxL ret :: ws) R) (fun a U => a = as.toArray ∧ Z.Warmed39 U.vm ∧ U.heap = h0) (fun _ _ _ _ _ => True)
    (fun _ U o U' => ∃ v L, o = .returned v ∧ (∃ G', Rep sig Z n0 U'.heap G' ∧ Q v G' ∧ Fr n0 L) ∧ FrameEnd U o U' L R.cells R.slots)
section Body
variable {tab : List Jvm.Cond} {sig : Sig} {l : Launch} {Z : State} {a0 : Array Value} {n0 : Nat} {bytes : ByteArray} {maxL : Nat} {ret : Option FieldType} {R : Room} {Q : Post}
theorem Meth.of {y : MethodName} {as : List Value} {G : Ghost} {Ls : List Slot} (hpl : plainFor y = true) (hw : ∀ d ∈ tab, d.before a0 Z = true) (hS : SigOk tab sig)
    (hent : ∀ m, entryFrame m as.toArray maxL = mkF m 0 Ls.toArray [])
    (body : ∀ J, Walk tab sig l Z a0 n0 y.cls y.name bytes maxL ret R Q J → J 0 Ls [] G 0 0) : Meth sig l Z n0 y bytes maxL ret R as G Q := by
  intro ws h0 hrep
  refine MetFree.of_bodySF hpl hisR ?_
  intro p e s m args below meth c s₁ Bd hml0 hP hK
  obtain ⟨rfl, hZ, hh⟩ := hP
  have hown : s.vm.findClass y.cls = some m.cls := findClass_of_methodNamed Bd.named
  have hnm := (name_of_methodNamed Bd.named Bd.method).1
  have X0 : Stand p l e R s m as.toArray below meth c s₁ [] 0 0 := Stand.of_body Bd
  have e0 : s₁.heap = h0 := by rw [← hh, Bd.state]; rfl
  have J := body _ ⟨p, e, s, m, as.toArray, below, meth, c, rfl, Bd.exec, Bd.bytes, hml0, Bd.returns, Bd.notSynchronized, hnm, hZ, hown, hw, hS⟩ s₁ [] X0 (by rw [e0]; exact hrep) (Fr.nil n0)
  obtain ⟨t, o, st, r1, r2, v, L, r3, r4, r5⟩ := J
  exact ⟨t, o, castTop (hent m) st, r1, r2, v, L, r3, r4, r5⟩
end Body
/-! ## the local variables as a list -/
def ok1 : Option Slot → Bool
  | some .unset => true
  | some (.val (.long _)) => false
  | some (.val (.double _)) => false
  | some (.val _) => true
  | _ => false
def ok2 : Option Slot → Option Slot → Bool
  | some .unset, some .unset => true
  | some .unset, some (.val (.int _)) => true
  | some .unset, some (.val .null) => true
  | some .unset, some (.val (.ref _)) => true
  | some (.val (.int _)), some .unset => true
  | some (.val (.int _)), some (.val (.int _)) => true
  | some (.val (.int _)), some (.val .null) => true
  | some (.val (.int _)), some (.val (.ref _)) => true
  | some (.val .null), some .unset => true
  | some (.val .null), some (.val (.int _)) => true
  | some (.val .null), some (.val .null) => true
  | some (.val .null), some (.val (.ref _)) => true
  | some (.val (.ref _)), some .unset => true
  | some (.val (.ref _)), some (.val (.int _)) => true
  | some (.val (.ref _)), some (.val .null) => true
  | some (.val (.ref _)), some (.val (.ref _)) => true
  | some (.val (.long _)), some .second => true
  | _, _ => false
theorem store_one {Ls : List Slot} {i : Nat} {v : Value} (ho : ok1 Ls[i]? = true) (hv : v.category = 1) : storeLocals Ls.toArray i v = some (Ls.set i (.val v)).toArray := by
  have hlt : i < Ls.length := by
    rcases Nat.lt_or_ge i Ls.length with h | h
    · exact h
    · rw [List.getElem?_eq_none h] at ho; cases ho
  cases hq : Ls[i]? with
  | none => rw [hq] at ho; cases ho
  | some o =>
    rw [hq] at ho
    have e := XS.store1 (l := Ls.toArray) (i := i) (v := v) (o := o) (by simpa using hq) (by
      cases o with
      | unset => exact Or.inl rfl
      | second => cases ho
      | val w => exact Or.inr ⟨w, rfl, by cases w <;> first | rfl | (cases ho)⟩) hv
    rw [e]
    simp
theorem store_two {Ls : List Slot} {i : Nat} {v : Int64} (ho : ok2 Ls[i]? Ls[i + 1]? = true) : storeLocals Ls.toArray i (.long v) = some ((Ls.set i (.val (.long v))).set (i + 1) .second).toArray := by
  have hlt : i + 1 < Ls.length := by
    rcases Nat.lt_or_ge (i + 1) Ls.length with h | h
    · exact h
    · rw [List.getElem?_eq_none h] at ho
      generalize Ls[i]? = o at ho
      cases o with
      | none => cases ho
      | some o => cases o with
        | unset => cases ho
        | second => cases ho
        | val w => cases w <;> cases ho
  have hlt0 : i < Ls.length := by omega
  rw [List.getElem?_eq_getElem hlt, List.getElem?_eq_getElem hlt0] at ho
  have g0 : Ls.toArray[i]? = some Ls[i] := by simp [hlt0]
  have g1 : Ls.toArray[i + 1]? = some Ls[i + 1] := by simp [hlt]
  generalize Ls[i] = A at ho g0
  generalize Ls[i + 1] = B at ho g1
  cases A with
  | unset => cases B with
    | unset => simp_all [storeLocals, storeSelf, setAt, Value.category]
    | second => cases ho
    | val w => cases w <;> first | (cases ho; done) | simp_all [storeLocals, storeSelf, setAt, Value.category]
  | second => cases ho
  | val u => cases B with
    | unset => cases u <;> first | (cases ho; done) | simp_all [storeLocals, storeSelf, setAt, Value.category]
    | second => cases u <;> first | (cases ho; done) | (simp_all [storeLocals, storeSelf, setAt, Value.category]; rw [List.set_comm _ _ (show i + 1 ≠ i by omega), List.set_set])
    | val w => cases u <;> first | (cases ho; done) | (cases w <;> first | (cases ho; done) | simp_all [storeLocals, storeSelf, setAt, Value.category])
theorem pop2L_step {p : Program} {l : Launch} {e : Env} {R : Room} {s : State} {m : MethodId} {args : Array Value} {below : List Frame} {meth : Method} {c : Code} {T : State} {locs : List Loc} {cells slots : Nat} {pc : Nat} {Ls : Array Slot} {x : Int64} {S : List Value} {target : State}
    (X : Stand p l e R s m args below meth c T locs cells slots) (hx : p.tables.exec = Jvm.exec) (hd : decode c.code pc = .ok (.pop2, 1)) (hr : Steps p.tables e below (T.setTop (mkF m (pc + 1) Ls S)) target) : Steps p.tables e below (T.setTop (mkF m pc Ls (.long x :: S))) target := by
  jvm_step X.here [X.here.top, hx, hd, Value.category]
  exact hr
section Steps
variable {tab : List Jvm.Cond} {sig : Sig} {l : Launch} {Z : State} {a0 : Array Value} {n0 : Nat} {own nm : String} {bytes : ByteArray} {maxL : Nat} {ret : Option FieldType} {R : Room} {Q : Post} {J : JT} {pc pc' : Nat} {Ls : List Slot} {S : List Value} {G : Ghost} {k sl : Nat}
theorem Walk.iload (W : Walk tab sig l Z a0 n0 own nm bytes maxL ret R Q J) {i : Nat} {v : Int32} (hd : decode bytes pc = .ok (.iload i, 2)) (hl : Ls[i]? = some (.val (.int v))) (hr : J pc' Ls (.int v :: S) G k sl) (hp : pc + 2 = pc' := by rfl) : J pc Ls (S) G k sl := by
  obtain ⟨p, e, s, m, args, below, meth, c, rfl, hx, hby, hml, hret, hlk, hnm, hZ, hown, hw, hS⟩ := W
  subst hp
  intro T locs X hG hF
  obtain ⟨t, o, st, h⟩ := hr T locs X hG hF
  exact ⟨t, o, XS.iload X.here hx rfl (Jvm.hb hby hd) (by simpa using hl) st, h⟩
theorem Walk.iloadN (W : Walk tab sig l Z a0 n0 own nm bytes maxL ret R Q J) {i : Fin 4} {v : Int32} (hd : decode bytes pc = .ok (.iload_n i, 1)) (hl : Ls[i.val]? = some (.val (.int v))) (hr : J pc' Ls (.int v :: S) G k sl) (hp : pc + 1 = pc' := by rfl) : J pc Ls (S) G k sl := by
  obtain ⟨p, e, s, m, args, below, meth, c, rfl, hx, hby, hml, hret, hlk, hnm, hZ, hown, hw, hS⟩ := W
  subst hp
  intro T locs X hG hF
  obtain ⟨t, o, st, h⟩ := hr T locs X hG hF
  exact ⟨t, o, XS.iloadN X.here hx rfl (Jvm.hb hby hd) (by simpa using hl) st, h⟩
theorem Walk.lload (W : Walk tab sig l Z a0 n0 own nm bytes maxL ret R Q J) {i : Nat} {v : Int64} (hd : decode bytes pc = .ok (.lload i, 2)) (hl : Ls[i]? = some (.val (.long v))) (hr : J pc' Ls (.long v :: S) G k sl) (hp : pc + 2 = pc' := by rfl) : J pc Ls (S) G k sl := by
  obtain ⟨p, e, s, m, args, below, meth, c, rfl, hx, hby, hml, hret, hlk, hnm, hZ, hown, hw, hS⟩ := W
  subst hp
  intro T locs X hG hF
  obtain ⟨t, o, st, h⟩ := hr T locs X hG hF
  exact ⟨t, o, XT.lload X.here hx rfl (Jvm.hb hby hd) (by simpa using hl) st, h⟩
theorem Walk.lloadN (W : Walk tab sig l Z a0 n0 own nm bytes maxL ret R Q J) {i : Fin 4} {v : Int64} (hd : decode bytes pc = .ok (.lload_n i, 1)) (hl : Ls[i.val]? = some (.val (.long v))) (hr : J pc' Ls (.long v :: S) G k sl) (hp : pc + 1 = pc' := by rfl) : J pc Ls (S) G k sl := by
  obtain ⟨p, e, s, m, args, below, meth, c, rfl, hx, hby, hml, hret, hlk, hnm, hZ, hown, hw, hS⟩ := W
  subst hp
  intro T locs X hG hF
  obtain ⟨t, o, st, h⟩ := hr T locs X hG hF
  exact ⟨t, o, XT.lloadN X.here hx rfl (Jvm.hb hby hd) (by simpa using hl) st, h⟩
theorem Walk.aload (W : Walk tab sig l Z a0 n0 own nm bytes maxL ret R Q J) {i : Nat} {v : Value} (hd : decode bytes pc = .ok (.aload i, 2)) (hl : Ls[i]? = some (.val v)) (hv : v.isRef = true) (hr : J pc' Ls (v :: S) G k sl) (hp : pc + 2 = pc' := by rfl) : J pc Ls (S) G k sl := by
  obtain ⟨p, e, s, m, args, below, meth, c, rfl, hx, hby, hml, hret, hlk, hnm, hZ, hown, hw, hS⟩ := W
  subst hp
  intro T locs X hG hF
  obtain ⟨t, o, st, h⟩ := hr T locs X hG hF
  exact ⟨t, o, XS.aload X.here hx rfl (Jvm.hb hby hd) (by simpa using hl) hv st, h⟩
theorem Walk.aloadN (W : Walk tab sig l Z a0 n0 own nm bytes maxL ret R Q J) {i : Fin 4} {v : Value} (hd : decode bytes pc = .ok (.aload_n i, 1)) (hl : Ls[i.val]? = some (.val v)) (hv : v.isRef = true) (hr : J pc' Ls (v :: S) G k sl) (hp : pc + 1 = pc' := by rfl) : J pc Ls (S) G k sl := by
  obtain ⟨p, e, s, m, args, below, meth, c, rfl, hx, hby, hml, hret, hlk, hnm, hZ, hown, hw, hS⟩ := W
  subst hp
  intro T locs X hG hF
  obtain ⟨t, o, st, h⟩ := hr T locs X hG hF
  exact ⟨t, o, XS.aloadN X.here hx rfl (Jvm.hb hby hd) (by simpa using hl) hv st, h⟩
theorem Walk.iconst (W : Walk tab sig l Z a0 n0 own nm bytes maxL ret R Q J) {i : Int} (v : Int32) (hd : decode bytes pc = .ok (.iconst i, 1)) (hv : Int32.ofInt i = v) (hr : J pc' Ls (.int v :: S) G k sl) (hp : pc + 1 = pc' := by rfl) : J pc Ls (S) G k sl := by
  obtain ⟨p, e, s, m, args, below, meth, c, rfl, hx, hby, hml, hret, hlk, hnm, hZ, hown, hw, hS⟩ := W
  subst hp
  intro T locs X hG hF
  obtain ⟨t, o, st, h⟩ := hr T locs X hG hF
  exact ⟨t, o, XT.iconstV X.here hx rfl v (Jvm.hb hby hd) hv st, h⟩
theorem Walk.bipush (W : Walk tab sig l Z a0 n0 own nm bytes maxL ret R Q J) {i : Int} (v : Int32) (hd : decode bytes pc = .ok (.bipush i, 2)) (hv : (Int8.ofInt i).toInt32 = v) (hr : J pc' Ls (.int v :: S) G k sl) (hp : pc + 2 = pc' := by rfl) : J pc Ls (S) G k sl := by
  obtain ⟨p, e, s, m, args, below, meth, c, rfl, hx, hby, hml, hret, hlk, hnm, hZ, hown, hw, hS⟩ := W
  subst hp
  intro T locs X hG hF
  obtain ⟨t, o, st, h⟩ := hr T locs X hG hF
  exact ⟨t, o, XT.bipushV X.here hx rfl v (Jvm.hb hby hd) hv st, h⟩
theorem Walk.sipush (W : Walk tab sig l Z a0 n0 own nm bytes maxL ret R Q J) {i : Int} (v : Int32) (hd : decode bytes pc = .ok (.sipush i, 3)) (hv : (Int16.ofInt i).toInt32 = v) (hr : J pc' Ls (.int v :: S) G k sl) (hp : pc + 3 = pc' := by rfl) : J pc Ls (S) G k sl := by
  obtain ⟨p, e, s, m, args, below, meth, c, rfl, hx, hby, hml, hret, hlk, hnm, hZ, hown, hw, hS⟩ := W
  subst hp
  intro T locs X hG hF
  obtain ⟨t, o, st, h⟩ := hr T locs X hG hF
  exact ⟨t, o, XT.sipushV X.here hx rfl v (Jvm.hb hby hd) hv st, h⟩
theorem Walk.lconst (W : Walk tab sig l Z a0 n0 own nm bytes maxL ret R Q J) {i : Fin 2} (v : Int64) (hd : decode bytes pc = .ok (.lconst i, 1)) (hv : Int64.ofNat i = v) (hr : J pc' Ls (.long v :: S) G k sl) (hp : pc + 1 = pc' := by rfl) : J pc Ls (S) G k sl := by
  obtain ⟨p, e, s, m, args, below, meth, c, rfl, hx, hby, hml, hret, hlk, hnm, hZ, hown, hw, hS⟩ := W
  subst hp
  intro T locs X hG hF
  obtain ⟨t, o, st, h⟩ := hr T locs X hG hF
  exact ⟨t, o, XT.lconstV X.here hx rfl v (Jvm.hb hby hd) hv st, h⟩
theorem Walk.aconstNull (W : Walk tab sig l Z a0 n0 own nm bytes maxL ret R Q J) (hd : decode bytes pc = .ok (.aconst_null, 1)) (hr : J pc' Ls (.null :: S) G k sl) (hp : pc + 1 = pc' := by rfl) : J pc Ls (S) G k sl := by
  obtain ⟨p, e, s, m, args, below, meth, c, rfl, hx, hby, hml, hret, hlk, hnm, hZ, hown, hw, hS⟩ := W
  subst hp
  intro T locs X hG hF
  obtain ⟨t, o, st, h⟩ := hr T locs X hG hF
  exact ⟨t, o, XS.aconstNull X.here hx rfl (Jvm.hb hby hd) st, h⟩
theorem Walk.iadd (W : Walk tab sig l Z a0 n0 own nm bytes maxL ret R Q J) {x y : Int32} (hd : decode bytes pc = .ok (.iadd, 1)) (hr : J pc' Ls (.int (x + y) :: S) G k sl) (hp : pc + 1 = pc' := by rfl) : J pc Ls (.int y :: .int x :: S) G k sl := by
  obtain ⟨p, e, s, m, args, below, meth, c, rfl, hx, hby, hml, hret, hlk, hnm, hZ, hown, hw, hS⟩ := W
  subst hp
  intro T locs X hG hF
  obtain ⟨t, o, st, h⟩ := hr T locs X hG hF
  exact ⟨t, o, XS.iadd X.here hx rfl (Jvm.hb hby hd) rfl st, h⟩
theorem Walk.isub (W : Walk tab sig l Z a0 n0 own nm bytes maxL ret R Q J) {x y : Int32} (hd : decode bytes pc = .ok (.isub, 1)) (hr : J pc' Ls (.int (x - y) :: S) G k sl) (hp : pc + 1 = pc' := by rfl) : J pc Ls (.int y :: .int x :: S) G k sl := by
  obtain ⟨p, e, s, m, args, below, meth, c, rfl, hx, hby, hml, hret, hlk, hnm, hZ, hown, hw, hS⟩ := W
  subst hp
  intro T locs X hG hF
  obtain ⟨t, o, st, h⟩ := hr T locs X hG hF
  exact ⟨t, o, XS.isub X.here hx rfl (Jvm.hb hby hd) rfl st, h⟩
theorem Walk.imul (W : Walk tab sig l Z a0 n0 own nm bytes maxL ret R Q J) {x y : Int32} (hd : decode bytes pc = .ok (.imul, 1)) (hr : J pc' Ls (.int (x * y) :: S) G k sl) (hp : pc + 1 = pc' := by rfl) : J pc Ls (.int y :: .int x :: S) G k sl := by
  obtain ⟨p, e, s, m, args, below, meth, c, rfl, hx, hby, hml, hret, hlk, hnm, hZ, hown, hw, hS⟩ := W
  subst hp
  intro T locs X hG hF
  obtain ⟨t, o, st, h⟩ := hr T locs X hG hF
  exact ⟨t, o, XS.imul X.here hx rfl (Jvm.hb hby hd) rfl st, h⟩
theorem Walk.iand (W : Walk tab sig l Z a0 n0 own nm bytes maxL ret R Q J) {x y : Int32} (hd : decode bytes pc = .ok (.iand, 1)) (hr : J pc' Ls (.int (x &&& y) :: S) G k sl) (hp : pc + 1 = pc' := by rfl) : J pc Ls (.int y :: .int x :: S) G k sl := by
  obtain ⟨p, e, s, m, args, below, meth, c, rfl, hx, hby, hml, hret, hlk, hnm, hZ, hown, hw, hS⟩ := W
  subst hp
  intro T locs X hG hF
  obtain ⟨t, o, st, h⟩ := hr T locs X hG hF
  exact ⟨t, o, XS.iand X.here hx rfl (Jvm.hb hby hd) rfl st, h⟩
theorem Walk.ior (W : Walk tab sig l Z a0 n0 own nm bytes maxL ret R Q J) {x y : Int32} (hd : decode bytes pc = .ok (.ior, 1)) (hr : J pc' Ls (.int (x ||| y) :: S) G k sl) (hp : pc + 1 = pc' := by rfl) : J pc Ls (.int y :: .int x :: S) G k sl := by
  obtain ⟨p, e, s, m, args, below, meth, c, rfl, hx, hby, hml, hret, hlk, hnm, hZ, hown, hw, hS⟩ := W
  subst hp
  intro T locs X hG hF
  obtain ⟨t, o, st, h⟩ := hr T locs X hG hF
  exact ⟨t, o, XT.ior X.here hx rfl (Jvm.hb hby hd) rfl st, h⟩
theorem Walk.ixor (W : Walk tab sig l Z a0 n0 own nm bytes maxL ret R Q J) {x y : Int32} (hd : decode bytes pc = .ok (.ixor, 1)) (hr : J pc' Ls (.int (x ^^^ y) :: S) G k sl) (hp : pc + 1 = pc' := by rfl) : J pc Ls (.int y :: .int x :: S) G k sl := by
  obtain ⟨p, e, s, m, args, below, meth, c, rfl, hx, hby, hml, hret, hlk, hnm, hZ, hown, hw, hS⟩ := W
  subst hp
  intro T locs X hG hF
  obtain ⟨t, o, st, h⟩ := hr T locs X hG hF
  exact ⟨t, o, XT.ixor X.here hx rfl (Jvm.hb hby hd) rfl st, h⟩
theorem Walk.ishl (W : Walk tab sig l Z a0 n0 own nm bytes maxL ret R Q J) {x y : Int32} (hd : decode bytes pc = .ok (.ishl, 1)) (hr : J pc' Ls (.int (x <<< (y &&& 31)) :: S) G k sl) (hp : pc + 1 = pc' := by rfl) : J pc Ls (.int y :: .int x :: S) G k sl := by
  obtain ⟨p, e, s, m, args, below, meth, c, rfl, hx, hby, hml, hret, hlk, hnm, hZ, hown, hw, hS⟩ := W
  subst hp
  intro T locs X hG hF
  obtain ⟨t, o, st, h⟩ := hr T locs X hG hF
  exact ⟨t, o, XT.ishl X.here hx rfl (Jvm.hb hby hd) rfl st, h⟩
theorem Walk.ishr (W : Walk tab sig l Z a0 n0 own nm bytes maxL ret R Q J) {x y : Int32} (hd : decode bytes pc = .ok (.ishr, 1)) (hr : J pc' Ls (.int (x >>> (y &&& 31)) :: S) G k sl) (hp : pc + 1 = pc' := by rfl) : J pc Ls (.int y :: .int x :: S) G k sl := by
  obtain ⟨p, e, s, m, args, below, meth, c, rfl, hx, hby, hml, hret, hlk, hnm, hZ, hown, hw, hS⟩ := W
  subst hp
  intro T locs X hG hF
  obtain ⟨t, o, st, h⟩ := hr T locs X hG hF
  exact ⟨t, o, XT.ishr X.here hx rfl (Jvm.hb hby hd) rfl st, h⟩
theorem Walk.iushr (W : Walk tab sig l Z a0 n0 own nm bytes maxL ret R Q J) {x y : Int32} (hd : decode bytes pc = .ok (.iushr, 1)) (hr : J pc' Ls (.int (XT.ushr x y) :: S) G k sl) (hp : pc + 1 = pc' := by rfl) : J pc Ls (.int y :: .int x :: S) G k sl := by
  obtain ⟨p, e, s, m, args, below, meth, c, rfl, hx, hby, hml, hret, hlk, hnm, hZ, hown, hw, hS⟩ := W
  subst hp
  intro T locs X hG hF
  obtain ⟨t, o, st, h⟩ := hr T locs X hG hF
  exact ⟨t, o, XT.iushr X.here hx rfl (Jvm.hb hby hd) rfl st, h⟩
theorem Walk.idiv (W : Walk tab sig l Z a0 n0 own nm bytes maxL ret R Q J) {x y : Int32} (hd : decode bytes pc = .ok (.idiv, 1)) (hy : y ≠ 0) (hr : J pc' Ls (.int (x / y) :: S) G k sl) (hp : pc + 1 = pc' := by rfl) : J pc Ls (.int y :: .int x :: S) G k sl := by
  obtain ⟨p, e, s, m, args, below, meth, c, rfl, hx, hby, hml, hret, hlk, hnm, hZ, hown, hw, hS⟩ := W
  subst hp
  intro T locs X hG hF
  obtain ⟨t, o, st, h⟩ := hr T locs X hG hF
  exact ⟨t, o, XS.idiv X.here hx rfl (Jvm.hb hby hd) rfl hy st, h⟩
theorem Walk.irem (W : Walk tab sig l Z a0 n0 own nm bytes maxL ret R Q J) {x y : Int32} (hd : decode bytes pc = .ok (.irem, 1)) (hy : y ≠ 0) (hr : J pc' Ls (.int (x % y) :: S) G k sl) (hp : pc + 1 = pc' := by rfl) : J pc Ls (.int y :: .int x :: S) G k sl := by
  obtain ⟨p, e, s, m, args, below, meth, c, rfl, hx, hby, hml, hret, hlk, hnm, hZ, hown, hw, hS⟩ := W
  subst hp
  intro T locs X hG hF
  obtain ⟨t, o, st, h⟩ := hr T locs X hG hF
  exact ⟨t, o, iremM X hx rfl (Jvm.hb hby hd) rfl hy st, h⟩
theorem Walk.ineg (W : Walk tab sig l Z a0 n0 own nm bytes maxL ret R Q J) {x : Int32} (hd : decode bytes pc = .ok (.ineg, 1)) (hr : J pc' Ls (.int (-x) :: S) G k sl) (hp : pc + 1 = pc' := by rfl) : J pc Ls (.int x :: S) G k sl := by
  obtain ⟨p, e, s, m, args, below, meth, c, rfl, hx, hby, hml, hret, hlk, hnm, hZ, hown, hw, hS⟩ := W
  subst hp
  intro T locs X hG hF
  obtain ⟨t, o, st, h⟩ := hr T locs X hG hF
  exact ⟨t, o, XS.ineg X.here hx rfl (Jvm.hb hby hd) rfl st, h⟩
theorem Walk.ladd (W : Walk tab sig l Z a0 n0 own nm bytes maxL ret R Q J) {x y : Int64} (hd : decode bytes pc = .ok (.ladd, 1)) (hr : J pc' Ls (.long (x + y) :: S) G k sl) (hp : pc + 1 = pc' := by rfl) : J pc Ls (.long y :: .long x :: S) G k sl := by
  obtain ⟨p, e, s, m, args, below, meth, c, rfl, hx, hby, hml, hret, hlk, hnm, hZ, hown, hw, hS⟩ := W
  subst hp
  intro T locs X hG hF
  obtain ⟨t, o, st, h⟩ := hr T locs X hG hF
  exact ⟨t, o, XT.ladd X.here hx rfl (Jvm.hb hby hd) rfl st, h⟩
theorem Walk.lsub (W : Walk tab sig l Z a0 n0 own nm bytes maxL ret R Q J) {x y : Int64} (hd : decode bytes pc = .ok (.lsub, 1)) (hr : J pc' Ls (.long (x - y) :: S) G k sl) (hp : pc + 1 = pc' := by rfl) : J pc Ls (.long y :: .long x :: S) G k sl := by
  obtain ⟨p, e, s, m, args, below, meth, c, rfl, hx, hby, hml, hret, hlk, hnm, hZ, hown, hw, hS⟩ := W
  subst hp
  intro T locs X hG hF
  obtain ⟨t, o, st, h⟩ := hr T locs X hG hF
  exact ⟨t, o, XT.lsub X.here hx rfl (Jvm.hb hby hd) rfl st, h⟩
theorem Walk.lmul (W : Walk tab sig l Z a0 n0 own nm bytes maxL ret R Q J) {x y : Int64} (hd : decode bytes pc = .ok (.lmul, 1)) (hr : J pc' Ls (.long (x * y) :: S) G k sl) (hp : pc + 1 = pc' := by rfl) : J pc Ls (.long y :: .long x :: S) G k sl := by
  obtain ⟨p, e, s, m, args, below, meth, c, rfl, hx, hby, hml, hret, hlk, hnm, hZ, hown, hw, hS⟩ := W
  subst hp
  intro T locs X hG hF
  obtain ⟨t, o, st, h⟩ := hr T locs X hG hF
  exact ⟨t, o, XT.lmul X.here hx rfl (Jvm.hb hby hd) rfl st, h⟩
theorem Walk.land (W : Walk tab sig l Z a0 n0 own nm bytes maxL ret R Q J) {x y : Int64} (hd : decode bytes pc = .ok (.land, 1)) (hr : J pc' Ls (.long (x &&& y) :: S) G k sl) (hp : pc + 1 = pc' := by rfl) : J pc Ls (.long y :: .long x :: S) G k sl := by
  obtain ⟨p, e, s, m, args, below, meth, c, rfl, hx, hby, hml, hret, hlk, hnm, hZ, hown, hw, hS⟩ := W
  subst hp
  intro T locs X hG hF
  obtain ⟨t, o, st, h⟩ := hr T locs X hG hF
  exact ⟨t, o, XT.land X.here hx rfl (Jvm.hb hby hd) rfl st, h⟩
theorem Walk.lor (W : Walk tab sig l Z a0 n0 own nm bytes maxL ret R Q J) {x y : Int64} (hd : decode bytes pc = .ok (.lor, 1)) (hr : J pc' Ls (.long (x ||| y) :: S) G k sl) (hp : pc + 1 = pc' := by rfl) : J pc Ls (.long y :: .long x :: S) G k sl := by
  obtain ⟨p, e, s, m, args, below, meth, c, rfl, hx, hby, hml, hret, hlk, hnm, hZ, hown, hw, hS⟩ := W
  subst hp
  intro T locs X hG hF
  obtain ⟨t, o, st, h⟩ := hr T locs X hG hF
  exact ⟨t, o, XT.lor X.here hx rfl (Jvm.hb hby hd) rfl st, h⟩
theorem Walk.lxor (W : Walk tab sig l Z a0 n0 own nm bytes maxL ret R Q J) {x y : Int64} (hd : decode bytes pc = .ok (.lxor, 1)) (hr : J pc' Ls (.long (x ^^^ y) :: S) G k sl) (hp : pc + 1 = pc' := by rfl) : J pc Ls (.long y :: .long x :: S) G k sl := by
  obtain ⟨p, e, s, m, args, below, meth, c, rfl, hx, hby, hml, hret, hlk, hnm, hZ, hown, hw, hS⟩ := W
  subst hp
  intro T locs X hG hF
  obtain ⟨t, o, st, h⟩ := hr T locs X hG hF
  exact ⟨t, o, XT.lxor X.here hx rfl (Jvm.hb hby hd) rfl st, h⟩
theorem Walk.lshl (W : Walk tab sig l Z a0 n0 own nm bytes maxL ret R Q J) {x : Int64} {y : Int32} (hd : decode bytes pc = .ok (.lshl, 1)) (hr : J pc' Ls (.long (x <<< (y.toInt64 &&& 63)) :: S) G k sl) (hp : pc + 1 = pc' := by rfl) : J pc Ls (.int y :: .long x :: S) G k sl := by
  obtain ⟨p, e, s, m, args, below, meth, c, rfl, hx, hby, hml, hret, hlk, hnm, hZ, hown, hw, hS⟩ := W
  subst hp
  intro T locs X hG hF
  obtain ⟨t, o, st, h⟩ := hr T locs X hG hF
  exact ⟨t, o, XT.lshl X.here hx rfl (Jvm.hb hby hd) rfl st, h⟩
theorem Walk.lshr (W : Walk tab sig l Z a0 n0 own nm bytes maxL ret R Q J) {x : Int64} {y : Int32} (hd : decode bytes pc = .ok (.lshr, 1)) (hr : J pc' Ls (.long (x >>> (y.toInt64 &&& 63)) :: S) G k sl) (hp : pc + 1 = pc' := by rfl) : J pc Ls (.int y :: .long x :: S) G k sl := by
  obtain ⟨p, e, s, m, args, below, meth, c, rfl, hx, hby, hml, hret, hlk, hnm, hZ, hown, hw, hS⟩ := W
  subst hp
  intro T locs X hG hF
  obtain ⟨t, o, st, h⟩ := hr T locs X hG hF
  exact ⟨t, o, XT.lshr X.here hx rfl (Jvm.hb hby hd) rfl st, h⟩
theorem Walk.lushr (W : Walk tab sig l Z a0 n0 own nm bytes maxL ret R Q J) {x : Int64} {y : Int32} (hd : decode bytes pc = .ok (.lushr, 1)) (hr : J pc' Ls (.long (XT.ushrL x y) :: S) G k sl) (hp : pc + 1 = pc' := by rfl) : J pc Ls (.int y :: .long x :: S) G k sl := by
  obtain ⟨p, e, s, m, args, below, meth, c, rfl, hx, hby, hml, hret, hlk, hnm, hZ, hown, hw, hS⟩ := W
  subst hp
  intro T locs X hG hF
  obtain ⟨t, o, st, h⟩ := hr T locs X hG hF
  exact ⟨t, o, XT.lushr X.here hx rfl (Jvm.hb hby hd) rfl st, h⟩
theorem Walk.ldiv (W : Walk tab sig l Z a0 n0 own nm bytes maxL ret R Q J) {x y : Int64} (hd : decode bytes pc = .ok (.ldiv, 1)) (hy : y ≠ 0) (hr : J pc' Ls (.long (x / y) :: S) G k sl) (hp : pc + 1 = pc' := by rfl) : J pc Ls (.long y :: .long x :: S) G k sl := by
  obtain ⟨p, e, s, m, args, below, meth, c, rfl, hx, hby, hml, hret, hlk, hnm, hZ, hown, hw, hS⟩ := W
  subst hp
  intro T locs X hG hF
  obtain ⟨t, o, st, h⟩ := hr T locs X hG hF
  exact ⟨t, o, XT.ldiv X.here hx rfl (Jvm.hb hby hd) rfl hy st, h⟩
theorem Walk.lrem (W : Walk tab sig l Z a0 n0 own nm bytes maxL ret R Q J) {x y : Int64} (hd : decode bytes pc = .ok (.lrem, 1)) (hy : y ≠ 0) (hr : J pc' Ls (.long (x - (x / y) * y) :: S) G k sl) (hp : pc + 1 = pc' := by rfl) : J pc Ls (.long y :: .long x :: S) G k sl := by
  obtain ⟨p, e, s, m, args, below, meth, c, rfl, hx, hby, hml, hret, hlk, hnm, hZ, hown, hw, hS⟩ := W
  subst hp
  intro T locs X hG hF
  obtain ⟨t, o, st, h⟩ := hr T locs X hG hF
  exact ⟨t, o, XT.lrem X.here hx rfl (Jvm.hb hby hd) rfl hy st, h⟩
theorem Walk.i2l (W : Walk tab sig l Z a0 n0 own nm bytes maxL ret R Q J) {x : Int32} (hd : decode bytes pc = .ok (.i2l, 1)) (hr : J pc' Ls (.long x.toInt64 :: S) G k sl) (hp : pc + 1 = pc' := by rfl) : J pc Ls (.int x :: S) G k sl := by
  obtain ⟨p, e, s, m, args, below, meth, c, rfl, hx, hby, hml, hret, hlk, hnm, hZ, hown, hw, hS⟩ := W
  subst hp
  intro T locs X hG hF
  obtain ⟨t, o, st, h⟩ := hr T locs X hG hF
  exact ⟨t, o, XT.i2l X.here hx rfl (Jvm.hb hby hd) rfl st, h⟩
theorem Walk.l2i (W : Walk tab sig l Z a0 n0 own nm bytes maxL ret R Q J) {x : Int64} (hd : decode bytes pc = .ok (.l2i, 1)) (hr : J pc' Ls (.int x.toInt32 :: S) G k sl) (hp : pc + 1 = pc' := by rfl) : J pc Ls (.long x :: S) G k sl := by
  obtain ⟨p, e, s, m, args, below, meth, c, rfl, hx, hby, hml, hret, hlk, hnm, hZ, hown, hw, hS⟩ := W
  subst hp
  intro T locs X hG hF
  obtain ⟨t, o, st, h⟩ := hr T locs X hG hF
  exact ⟨t, o, XT.l2i X.here hx rfl (Jvm.hb hby hd) rfl st, h⟩
theorem Walk.i2b (W : Walk tab sig l Z a0 n0 own nm bytes maxL ret R Q J) {x : Int32} (hd : decode bytes pc = .ok (.i2b, 1)) (hr : J pc' Ls (.int x.toInt8.toInt32 :: S) G k sl) (hp : pc + 1 = pc' := by rfl) : J pc Ls (.int x :: S) G k sl := by
  obtain ⟨p, e, s, m, args, below, meth, c, rfl, hx, hby, hml, hret, hlk, hnm, hZ, hown, hw, hS⟩ := W
  subst hp
  intro T locs X hG hF
  obtain ⟨t, o, st, h⟩ := hr T locs X hG hF
  exact ⟨t, o, XT.i2b X.here hx rfl (Jvm.hb hby hd) rfl st, h⟩
theorem Walk.lcmp (W : Walk tab sig l Z a0 n0 own nm bytes maxL ret R Q J) {x y : Int64} (hd : decode bytes pc = .ok (.lcmp, 1)) (hr : J pc' Ls (.int (XT.cmpL x y) :: S) G k sl) (hp : pc + 1 = pc' := by rfl) : J pc Ls (.long y :: .long x :: S) G k sl := by
  obtain ⟨p, e, s, m, args, below, meth, c, rfl, hx, hby, hml, hret, hlk, hnm, hZ, hown, hw, hS⟩ := W
  subst hp
  intro T locs X hG hF
  obtain ⟨t, o, st, h⟩ := hr T locs X hG hF
  exact ⟨t, o, XT.lcmp X.here hx rfl (Jvm.hb hby hd) rfl st, h⟩
theorem Walk.dup (W : Walk tab sig l Z a0 n0 own nm bytes maxL ret R Q J) {x : Value} (hd : decode bytes pc = .ok (.dup, 1)) (hc : x.category = 1) (hr : J pc' Ls (x :: x :: S) G k sl) (hp : pc + 1 = pc' := by rfl) : J pc Ls (x :: S) G k sl := by
  obtain ⟨p, e, s, m, args, below, meth, c, rfl, hx, hby, hml, hret, hlk, hnm, hZ, hown, hw, hS⟩ := W
  subst hp
  intro T locs X hG hF
  obtain ⟨t, o, st, h⟩ := hr T locs X hG hF
  exact ⟨t, o, XS.dup X.here hx rfl (Jvm.hb hby hd) rfl hc st, h⟩
theorem Walk.pop (W : Walk tab sig l Z a0 n0 own nm bytes maxL ret R Q J) {x : Value} (hd : decode bytes pc = .ok (.pop, 1)) (hc : x.category = 1) (hr : J pc' Ls (S) G k sl) (hp : pc + 1 = pc' := by rfl) : J pc Ls (x :: S) G k sl := by
  obtain ⟨p, e, s, m, args, below, meth, c, rfl, hx, hby, hml, hret, hlk, hnm, hZ, hown, hw, hS⟩ := W
  subst hp
  intro T locs X hG hF
  obtain ⟨t, o, st, h⟩ := hr T locs X hG hF
  exact ⟨t, o, XT.pop X.here hx rfl (Jvm.hb hby hd) rfl hc st, h⟩
theorem Walk.dupX1 (W : Walk tab sig l Z a0 n0 own nm bytes maxL ret R Q J) {x y : Value} (hd : decode bytes pc = .ok (.dup_x1, 1)) (hc : x.category = 1) (hc' : y.category = 1) (hr : J pc' Ls (x :: y :: x :: S) G k sl) (hp : pc + 1 = pc' := by rfl) : J pc Ls (x :: y :: S) G k sl := by
  obtain ⟨p, e, s, m, args, below, meth, c, rfl, hx, hby, hml, hret, hlk, hnm, hZ, hown, hw, hS⟩ := W
  subst hp
  intro T locs X hG hF
  obtain ⟨t, o, st, h⟩ := hr T locs X hG hF
  exact ⟨t, o, XT.dupX1 X.here hx rfl (Jvm.hb hby hd) rfl hc hc' st, h⟩
theorem Walk.dup2 (W : Walk tab sig l Z a0 n0 own nm bytes maxL ret R Q J) {x y : Value} (hd : decode bytes pc = .ok (.dup2, 1)) (hc : x.category = 1) (hc' : y.category = 1) (hr : J pc' Ls (x :: y :: x :: y :: S) G k sl) (hp : pc + 1 = pc' := by rfl) : J pc Ls (x :: y :: S) G k sl := by
  obtain ⟨p, e, s, m, args, below, meth, c, rfl, hx, hby, hml, hret, hlk, hnm, hZ, hown, hw, hS⟩ := W
  subst hp
  intro T locs X hG hF
  obtain ⟨t, o, st, h⟩ := hr T locs X hG hF
  exact ⟨t, o, XT.dup2 X.here hx rfl (Jvm.hb hby hd) rfl hc hc' st, h⟩
theorem Walk.dup2L (W : Walk tab sig l Z a0 n0 own nm bytes maxL ret R Q J) {x : Int64} (hd : decode bytes pc = .ok (.dup2, 1)) (hr : J pc' Ls (.long x :: .long x :: S) G k sl) (hp : pc + 1 = pc' := by rfl) : J pc Ls (.long x :: S) G k sl := by
  obtain ⟨p, e, s, m, args, below, meth, c, rfl, hx, hby, hml, hret, hlk, hnm, hZ, hown, hw, hS⟩ := W
  subst hp
  intro T locs X hG hF
  obtain ⟨t, o, st, h⟩ := hr T locs X hG hF
  exact ⟨t, o, XT.dup2L X.here hx rfl (Jvm.hb hby hd) rfl st, h⟩
theorem Walk.pop2L (W : Walk tab sig l Z a0 n0 own nm bytes maxL ret R Q J) {x : Int64} (hd : decode bytes pc = .ok (.pop2, 1)) (hr : J pc' Ls (S) G k sl) (hp : pc + 1 = pc' := by rfl) : J pc Ls (.long x :: S) G k sl := by
  obtain ⟨p, e, s, m, args, below, meth, c, rfl, hx, hby, hml, hret, hlk, hnm, hZ, hown, hw, hS⟩ := W
  subst hp
  intro T locs X hG hF
  obtain ⟨t, o, st, h⟩ := hr T locs X hG hF
  exact ⟨t, o, pop2L_step X hx (Jvm.hb hby hd) st, h⟩
theorem Walk.istore (W : Walk tab sig l Z a0 n0 own nm bytes maxL ret R Q J) {i : Nat} {x : Int32} (hd : decode bytes pc = .ok (.istore i, 2)) (ho : ok1 Ls[i]? = true) (hr : J pc' (Ls.set i (.val (.int x))) (S) G k sl) (hp : pc + 2 = pc' := by rfl) : J pc Ls (.int x :: S) G k sl := by
  obtain ⟨p, e, s, m, args, below, meth, c, rfl, hx, hby, hml, hret, hlk, hnm, hZ, hown, hw, hS⟩ := W
  subst hp
  intro T locs X hG hF
  obtain ⟨t, o, st, h⟩ := hr T locs X hG hF
  exact ⟨t, o, XS.istore X.here hx rfl (Jvm.hb hby hd) rfl (store_one ho rfl) st, h⟩
theorem Walk.istoreN (W : Walk tab sig l Z a0 n0 own nm bytes maxL ret R Q J) {i : Fin 4} {i' : Nat} {x : Int32} (hd : decode bytes pc = .ok (.istore_n i, 1)) (ho : ok1 Ls[i']? = true) (hr : J pc' (Ls.set i' (.val (.int x))) (S) G k sl) (hp : pc + 1 = pc' := by rfl) (hi : i.val = i' := by rfl) : J pc Ls (.int x :: S) G k sl := by
  obtain ⟨p, e, s, m, args, below, meth, c, rfl, hx, hby, hml, hret, hlk, hnm, hZ, hown, hw, hS⟩ := W
  subst hp
  intro T locs X hG hF
  obtain ⟨t, o, st, h⟩ := hr T locs X hG hF
  exact ⟨t, o, by subst hi; exact XS.istoreN X.here hx rfl (Jvm.hb hby hd) rfl (store_one ho rfl) st, h⟩
theorem Walk.astore (W : Walk tab sig l Z a0 n0 own nm bytes maxL ret R Q J) {i : Nat} {x : Value} (hd : decode bytes pc = .ok (.astore i, 2)) (hv : x.isRef = true) (ho : ok1 Ls[i]? = true) (hr : J pc' (Ls.set i (.val x)) (S) G k sl) (hp : pc + 2 = pc' := by rfl) : J pc Ls (x :: S) G k sl := by
  obtain ⟨p, e, s, m, args, below, meth, c, rfl, hx, hby, hml, hret, hlk, hnm, hZ, hown, hw, hS⟩ := W
  subst hp
  intro T locs X hG hF
  obtain ⟨t, o, st, h⟩ := hr T locs X hG hF
  exact ⟨t, o, XS.astore X.here hx rfl (Jvm.hb hby hd) rfl hv (store_one ho (XT.cat1 hv)) st, h⟩
theorem Walk.astoreN (W : Walk tab sig l Z a0 n0 own nm bytes maxL ret R Q J) {i : Fin 4} {i' : Nat} {x : Value} (hd : decode bytes pc = .ok (.astore_n i, 1)) (hv : x.isRef = true) (ho : ok1 Ls[i']? = true) (hr : J pc' (Ls.set i' (.val x)) (S) G k sl) (hp : pc + 1 = pc' := by rfl) (hi : i.val = i' := by rfl) : J pc Ls (x :: S) G k sl := by
  obtain ⟨p, e, s, m, args, below, meth, c, rfl, hx, hby, hml, hret, hlk, hnm, hZ, hown, hw, hS⟩ := W
  subst hp
  intro T locs X hG hF
  obtain ⟨t, o, st, h⟩ := hr T locs X hG hF
  exact ⟨t, o, by subst hi; exact XS.astoreN X.here hx rfl (Jvm.hb hby hd) rfl hv (store_one ho (XT.cat1 hv)) st, h⟩
theorem Walk.lstore (W : Walk tab sig l Z a0 n0 own nm bytes maxL ret R Q J) {i : Nat} {x : Int64} (hd : decode bytes pc = .ok (.lstore i, 2)) (ho : ok2 Ls[i]? Ls[i + 1]? = true) (hr : J pc' ((Ls.set i (.val (.long x))).set (i + 1) .second) (S) G k sl) (hp : pc + 2 = pc' := by rfl) : J pc Ls (.long x :: S) G k sl := by
  obtain ⟨p, e, s, m, args, below, meth, c, rfl, hx, hby, hml, hret, hlk, hnm, hZ, hown, hw, hS⟩ := W
  subst hp
  intro T locs X hG hF
  obtain ⟨t, o, st, h⟩ := hr T locs X hG hF
  exact ⟨t, o, XT.lstore X.here hx rfl (Jvm.hb hby hd) rfl (store_two ho) st, h⟩
theorem Walk.lstoreN (W : Walk tab sig l Z a0 n0 own nm bytes maxL ret R Q J) {i : Fin 4} {i' : Nat} {x : Int64} (hd : decode bytes pc = .ok (.lstore_n i, 1)) (ho : ok2 Ls[i']? Ls[i' + 1]? = true) (hr : J pc' ((Ls.set i' (.val (.long x))).set (i' + 1) .second) (S) G k sl) (hp : pc + 1 = pc' := by rfl) (hi : i.val = i' := by rfl) : J pc Ls (.long x :: S) G k sl := by
  obtain ⟨p, e, s, m, args, below, meth, c, rfl, hx, hby, hml, hret, hlk, hnm, hZ, hown, hw, hS⟩ := W
  subst hp
  intro T locs X hG hF
  obtain ⟨t, o, st, h⟩ := hr T locs X hG hF
  exact ⟨t, o, by subst hi; exact XT.lstoreN X.here hx rfl (Jvm.hb hby hd) rfl (store_two ho) st, h⟩
theorem Walk.iinc (W : Walk tab sig l Z a0 n0 own nm bytes maxL ret R Q J) {i : Nat} {cst : Int} (v : Int32) {x : Int32} (hd : decode bytes pc = .ok (.iinc i cst, 3)) (hv : Int32.ofInt cst = v) (hl : Ls[i]? = some (.val (.int x))) (hr : J pc' (Ls.set i (.val (.int (x + v)))) (S) G k sl) (hp : pc + 3 = pc' := by rfl) : J pc Ls (S) G k sl := by
  obtain ⟨p, e, s, m, args, below, meth, c, rfl, hx, hby, hml, hret, hlk, hnm, hZ, hown, hw, hS⟩ := W
  subst hp
  intro T locs X hG hF
  obtain ⟨t, o, st, h⟩ := hr T locs X hG hF
  exact ⟨t, o, XT.iincV X.here hx rfl v (Jvm.hb hby hd) hv (by simpa using hl) (store_one (by rw [hl]; rfl) rfl) st, h⟩
theorem Walk.ldcI (W : Walk tab sig l Z a0 n0 own nm bytes maxL ret R Q J) {i : Nat} {v : Int32} (hd : decode bytes pc = .ok (.ldc i, 2)) (hc : Jvm.Cond.constant own i v ∈ tab) (hr : J pc' Ls (.int v :: S) G k sl) (hp : pc + 2 = pc' := by rfl) : J pc Ls (S) G k sl := by
  obtain ⟨p, e, s, m, args, below, meth, c, rfl, hx, hby, hml, hret, hlk, hnm, hZ, hown, hw, hS⟩ := W
  subst hp
  intro T locs X hG hF
  obtain ⟨t, o, st, h⟩ := hr T locs X hG hF
  exact ⟨t, o, X.ldcInt hx hown (mvT hZ (hw _ hc)) (g := mkF m pc Ls.toArray S) rfl (Jvm.hb hby hd) _ st, h⟩
theorem Walk.ldcwI (W : Walk tab sig l Z a0 n0 own nm bytes maxL ret R Q J) {i : Nat} {v : Int32} (hd : decode bytes pc = .ok (.ldc_w i, 3)) (hc : Jvm.Cond.constant own i v ∈ tab) (hr : J pc' Ls (.int v :: S) G k sl) (hp : pc + 3 = pc' := by rfl) : J pc Ls (S) G k sl := by
  obtain ⟨p, e, s, m, args, below, meth, c, rfl, hx, hby, hml, hret, hlk, hnm, hZ, hown, hw, hS⟩ := W
  subst hp
  intro T locs X hG hF
  obtain ⟨t, o, st, h⟩ := hr T locs X hG hF
  exact ⟨t, o, X.ldcwInt hx hown (mvT hZ (hw _ hc)) (g := mkF m pc Ls.toArray S) rfl (Jvm.hb hby hd) _ st, h⟩
theorem Walk.ldc2J (W : Walk tab sig l Z a0 n0 own nm bytes maxL ret R Q J) {i : Nat} {v : Int64} (hd : decode bytes pc = .ok (.ldc2_w i, 3)) (hc : Jvm.Cond.constantLong own i v ∈ tab) (hr : J pc' Ls (.long v :: S) G k sl) (hp : pc + 3 = pc' := by rfl) : J pc Ls (S) G k sl := by
  obtain ⟨p, e, s, m, args, below, meth, c, rfl, hx, hby, hml, hret, hlk, hnm, hZ, hown, hw, hS⟩ := W
  subst hp
  intro T locs X hG hF
  obtain ⟨t, o, st, h⟩ := hr T locs X hG hF
  exact ⟨t, o, X.ldc2Long hx hown (mvT hZ (hw _ hc)) (g := mkF m pc Ls.toArray S) rfl (Jvm.hb hby hd) _ st, h⟩
theorem Walk.goto (W : Walk tab sig l Z a0 n0 own nm bytes maxL ret R Q J) {o : Int} (hd : decode bytes pc = .ok (.goto o, 3)) (hr : J pc' Ls S G k sl) (ho : 0 ≤ (pc : Int) + o := by decide) (hp : ((pc : Int) + o).toNat = pc' := by decide) : J pc Ls S G k sl := by
  obtain ⟨p, e, s, m, args, below, meth, c, rfl, hx, hby, hml, hret, hlk, hnm, hZ, hown, hw, hS⟩ := W
  intro T locs X hG hF
  obtain ⟨t, o, st, h⟩ := hr T locs X hG hF
  exact ⟨t, o, XS.goto X.here hx rfl rfl (Jvm.hb hby hd) ho hp st, h⟩
theorem Walk.if_eq (W : Walk tab sig l Z a0 n0 own nm bytes maxL ret R Q J) {x : Int32} {o : Int} {pc2 : Nat} (hd : decode bytes pc = .ok (.ifCond .eq o, 3)) (hT : (x = 0) → J pc' Ls S G k sl) (hF' : ¬ (x = 0) → J pc2 Ls S G k sl) (ho : 0 ≤ (pc : Int) + o := by decide) (hp : ((pc : Int) + o).toNat = pc' := by decide) (hp2 : pc + 3 = pc2 := by rfl) : J pc Ls (.int x :: S) G k sl := by
  obtain ⟨p, e, s, m, args, below, meth, c, rfl, hx, hby, hml, hret, hlk, hnm, hZ, hown, hw, hS⟩ := W
  subst hp2
  intro T locs X hG hF
  by_cases q : (x = 0)
  · obtain ⟨t, o, st, h⟩ := hT q T locs X hG hF
    exact ⟨t, o, XS.ifYes X.here hx rfl rfl (Jvm.hb hby hd) rfl (XT.i0_eq_t q) ho hp st, h⟩
  · obtain ⟨t, o, st, h⟩ := hF' q T locs X hG hF
    exact ⟨t, o, XS.ifNo X.here hx rfl (Jvm.hb hby hd) rfl (XT.i0_eq_f q) st, h⟩
theorem Walk.icmp_eq (W : Walk tab sig l Z a0 n0 own nm bytes maxL ret R Q J) {x y : Int32} {o : Int} {pc2 : Nat} (hd : decode bytes pc = .ok (.if_icmp .eq o, 3)) (hT : (x = y) → J pc' Ls S G k sl) (hF' : ¬ (x = y) → J pc2 Ls S G k sl) (ho : 0 ≤ (pc : Int) + o := by decide) (hp : ((pc : Int) + o).toNat = pc' := by decide) (hp2 : pc + 3 = pc2 := by rfl) : J pc Ls (.int y :: .int x :: S) G k sl := by
  obtain ⟨p, e, s, m, args, below, meth, c, rfl, hx, hby, hml, hret, hlk, hnm, hZ, hown, hw, hS⟩ := W
  subst hp2
  intro T locs X hG hF
  by_cases q : (x = y)
  · obtain ⟨t, o, st, h⟩ := hT q T locs X hG hF
    exact ⟨t, o, XS.icmpYes X.here hx rfl rfl (Jvm.hb hby hd) rfl (XT.ii_eq_t q) ho hp st, h⟩
  · obtain ⟨t, o, st, h⟩ := hF' q T locs X hG hF
    exact ⟨t, o, XS.icmpNo X.here hx rfl (Jvm.hb hby hd) rfl (XT.ii_eq_f q) st, h⟩
theorem Walk.ifl_eq (W : Walk tab sig l Z a0 n0 own nm bytes maxL ret R Q J) {x y : Int64} {o : Int} {pc2 : Nat} (hd : decode bytes pc = .ok (.ifCond .eq o, 3)) (hT : (x = y) → J pc' Ls S G k sl) (hF' : ¬ (x = y) → J pc2 Ls S G k sl) (ho : 0 ≤ (pc : Int) + o := by decide) (hp : ((pc : Int) + o).toNat = pc' := by decide) (hp2 : pc + 3 = pc2 := by rfl) : J pc Ls (.int (XT.cmpL x y) :: S) G k sl := by
  obtain ⟨p, e, s, m, args, below, meth, c, rfl, hx, hby, hml, hret, hlk, hnm, hZ, hown, hw, hS⟩ := W
  subst hp2
  intro T locs X hG hF
  by_cases q : (x = y)
  · obtain ⟨t, o, st, h⟩ := hT q T locs X hG hF
    exact ⟨t, o, XS.ifYes X.here hx rfl rfl (Jvm.hb hby hd) rfl (XT.ll_eq_t q) ho hp st, h⟩
  · obtain ⟨t, o, st, h⟩ := hF' q T locs X hG hF
    exact ⟨t, o, XS.ifNo X.here hx rfl (Jvm.hb hby hd) rfl (XT.ll_eq_f q) st, h⟩
theorem Walk.if_ne (W : Walk tab sig l Z a0 n0 own nm bytes maxL ret R Q J) {x : Int32} {o : Int} {pc2 : Nat} (hd : decode bytes pc = .ok (.ifCond .ne o, 3)) (hT : (x = 0) → J pc2 Ls S G k sl) (hF' : ¬ (x = 0) → J pc' Ls S G k sl) (ho : 0 ≤ (pc : Int) + o := by decide) (hp : ((pc : Int) + o).toNat = pc' := by decide) (hp2 : pc + 3 = pc2 := by rfl) : J pc Ls (.int x :: S) G k sl := by
  obtain ⟨p, e, s, m, args, below, meth, c, rfl, hx, hby, hml, hret, hlk, hnm, hZ, hown, hw, hS⟩ := W
  subst hp2
  intro T locs X hG hF
  by_cases q : (x = 0)
  · obtain ⟨t, o, st, h⟩ := hT q T locs X hG hF
    exact ⟨t, o, XS.ifNo X.here hx rfl (Jvm.hb hby hd) rfl (XT.i0_ne_f q) st, h⟩
  · obtain ⟨t, o, st, h⟩ := hF' q T locs X hG hF
    exact ⟨t, o, XS.ifYes X.here hx rfl rfl (Jvm.hb hby hd) rfl (XT.i0_ne_t q) ho hp st, h⟩
theorem Walk.icmp_ne (W : Walk tab sig l Z a0 n0 own nm bytes maxL ret R Q J) {x y : Int32} {o : Int} {pc2 : Nat} (hd : decode bytes pc = .ok (.if_icmp .ne o, 3)) (hT : (x = y) → J pc2 Ls S G k sl) (hF' : ¬ (x = y) → J pc' Ls S G k sl) (ho : 0 ≤ (pc : Int) + o := by decide) (hp : ((pc : Int) + o).toNat = pc' := by decide) (hp2 : pc + 3 = pc2 := by rfl) : J pc Ls (.int y :: .int x :: S) G k sl := by
  obtain ⟨p, e, s, m, args, below, meth, c, rfl, hx, hby, hml, hret, hlk, hnm, hZ, hown, hw, hS⟩ := W
  subst hp2
  intro T locs X hG hF
  by_cases q : (x = y)
  · obtain ⟨t, o, st, h⟩ := hT q T locs X hG hF
    exact ⟨t, o, XS.icmpNo X.here hx rfl (Jvm.hb hby hd) rfl (XT.ii_ne_f q) st, h⟩
  · obtain ⟨t, o, st, h⟩ := hF' q T locs X hG hF
    exact ⟨t, o, XS.icmpYes X.here hx rfl rfl (Jvm.hb hby hd) rfl (XT.ii_ne_t q) ho hp st, h⟩
theorem Walk.ifl_ne (W : Walk tab sig l Z a0 n0 own nm bytes maxL ret R Q J) {x y : Int64} {o : Int} {pc2 : Nat} (hd : decode bytes pc = .ok (.ifCond .ne o, 3)) (hT : (x = y) → J pc2 Ls S G k sl) (hF' : ¬ (x = y) → J pc' Ls S G k sl) (ho : 0 ≤ (pc : Int) + o := by decide) (hp : ((pc : Int) + o).toNat = pc' := by decide) (hp2 : pc + 3 = pc2 := by rfl) : J pc Ls (.int (XT.cmpL x y) :: S) G k sl := by
  obtain ⟨p, e, s, m, args, below, meth, c, rfl, hx, hby, hml, hret, hlk, hnm, hZ, hown, hw, hS⟩ := W
  subst hp2
  intro T locs X hG hF
  by_cases q : (x = y)
  · obtain ⟨t, o, st, h⟩ := hT q T locs X hG hF
    exact ⟨t, o, XS.ifNo X.here hx rfl (Jvm.hb hby hd) rfl (XT.ll_ne_f q) st, h⟩
  · obtain ⟨t, o, st, h⟩ := hF' q T locs X hG hF
    exact ⟨t, o, XS.ifYes X.here hx rfl rfl (Jvm.hb hby hd) rfl (XT.ll_ne_t q) ho hp st, h⟩
theorem Walk.if_lt (W : Walk tab sig l Z a0 n0 own nm bytes maxL ret R Q J) {x : Int32} {o : Int} {pc2 : Nat} (hd : decode bytes pc = .ok (.ifCond .lt o, 3)) (hT : (x < 0) → J pc' Ls S G k sl) (hF' : ¬ (x < 0) → J pc2 Ls S G k sl) (ho : 0 ≤ (pc : Int) + o := by decide) (hp : ((pc : Int) + o).toNat = pc' := by decide) (hp2 : pc + 3 = pc2 := by rfl) : J pc Ls (.int x :: S) G k sl := by
  obtain ⟨p, e, s, m, args, below, meth, c, rfl, hx, hby, hml, hret, hlk, hnm, hZ, hown, hw, hS⟩ := W
  subst hp2
  intro T locs X hG hF
  by_cases q : (x < 0)
  · obtain ⟨t, o, st, h⟩ := hT q T locs X hG hF
    exact ⟨t, o, XS.ifYes X.here hx rfl rfl (Jvm.hb hby hd) rfl (XT.i0_lt_t q) ho hp st, h⟩
  · obtain ⟨t, o, st, h⟩ := hF' q T locs X hG hF
    exact ⟨t, o, XS.ifNo X.here hx rfl (Jvm.hb hby hd) rfl (XT.i0_lt_f q) st, h⟩
theorem Walk.icmp_lt (W : Walk tab sig l Z a0 n0 own nm bytes maxL ret R Q J) {x y : Int32} {o : Int} {pc2 : Nat} (hd : decode bytes pc = .ok (.if_icmp .lt o, 3)) (hT : (x < y) → J pc' Ls S G k sl) (hF' : ¬ (x < y) → J pc2 Ls S G k sl) (ho : 0 ≤ (pc : Int) + o := by decide) (hp : ((pc : Int) + o).toNat = pc' := by decide) (hp2 : pc + 3 = pc2 := by rfl) : J pc Ls (.int y :: .int x :: S) G k sl := by
  obtain ⟨p, e, s, m, args, below, meth, c, rfl, hx, hby, hml, hret, hlk, hnm, hZ, hown, hw, hS⟩ := W
  subst hp2
  intro T locs X hG hF
  by_cases q : (x < y)
  · obtain ⟨t, o, st, h⟩ := hT q T locs X hG hF
    exact ⟨t, o, XS.icmpYes X.here hx rfl rfl (Jvm.hb hby hd) rfl (XT.ii_lt_t q) ho hp st, h⟩
  · obtain ⟨t, o, st, h⟩ := hF' q T locs X hG hF
    exact ⟨t, o, XS.icmpNo X.here hx rfl (Jvm.hb hby hd) rfl (XT.ii_lt_f q) st, h⟩
theorem Walk.ifl_lt (W : Walk tab sig l Z a0 n0 own nm bytes maxL ret R Q J) {x y : Int64} {o : Int} {pc2 : Nat} (hd : decode bytes pc = .ok (.ifCond .lt o, 3)) (hT : (x < y) → J pc' Ls S G k sl) (hF' : ¬ (x < y) → J pc2 Ls S G k sl) (ho : 0 ≤ (pc : Int) + o := by decide) (hp : ((pc : Int) + o).toNat = pc' := by decide) (hp2 : pc + 3 = pc2 := by rfl) : J pc Ls (.int (XT.cmpL x y) :: S) G k sl := by
  obtain ⟨p, e, s, m, args, below, meth, c, rfl, hx, hby, hml, hret, hlk, hnm, hZ, hown, hw, hS⟩ := W
  subst hp2
  intro T locs X hG hF
  by_cases q : (x < y)
  · obtain ⟨t, o, st, h⟩ := hT q T locs X hG hF
    exact ⟨t, o, XS.ifYes X.here hx rfl rfl (Jvm.hb hby hd) rfl (XT.ll_lt_t q) ho hp st, h⟩
  · obtain ⟨t, o, st, h⟩ := hF' q T locs X hG hF
    exact ⟨t, o, XS.ifNo X.here hx rfl (Jvm.hb hby hd) rfl (XT.ll_lt_f q) st, h⟩
theorem Walk.if_ge (W : Walk tab sig l Z a0 n0 own nm bytes maxL ret R Q J) {x : Int32} {o : Int} {pc2 : Nat} (hd : decode bytes pc = .ok (.ifCond .ge o, 3)) (hT : (x < 0) → J pc2 Ls S G k sl) (hF' : ¬ (x < 0) → J pc' Ls S G k sl) (ho : 0 ≤ (pc : Int) + o := by decide) (hp : ((pc : Int) + o).toNat = pc' := by decide) (hp2 : pc + 3 = pc2 := by rfl) : J pc Ls (.int x :: S) G k sl := by
  obtain ⟨p, e, s, m, args, below, meth, c, rfl, hx, hby, hml, hret, hlk, hnm, hZ, hown, hw, hS⟩ := W
  subst hp2
  intro T locs X hG hF
  by_cases q : (x < 0)
  · obtain ⟨t, o, st, h⟩ := hT q T locs X hG hF
    exact ⟨t, o, XS.ifNo X.here hx rfl (Jvm.hb hby hd) rfl (XT.i0_ge_f q) st, h⟩
  · obtain ⟨t, o, st, h⟩ := hF' q T locs X hG hF
    exact ⟨t, o, XS.ifYes X.here hx rfl rfl (Jvm.hb hby hd) rfl (XT.i0_ge_t q) ho hp st, h⟩
theorem Walk.icmp_ge (W : Walk tab sig l Z a0 n0 own nm bytes maxL ret R Q J) {x y : Int32} {o : Int} {pc2 : Nat} (hd : decode bytes pc = .ok (.if_icmp .ge o, 3)) (hT : (x < y) → J pc2 Ls S G k sl) (hF' : ¬ (x < y) → J pc' Ls S G k sl) (ho : 0 ≤ (pc : Int) + o := by decide) (hp : ((pc : Int) + o).toNat = pc' := by decide) (hp2 : pc + 3 = pc2 := by rfl) : J pc Ls (.int y :: .int x :: S) G k sl := by
  obtain ⟨p, e, s, m, args, below, meth, c, rfl, hx, hby, hml, hret, hlk, hnm, hZ, hown, hw, hS⟩ := W
  subst hp2
  intro T locs X hG hF
  by_cases q : (x < y)
  · obtain ⟨t, o, st, h⟩ := hT q T locs X hG hF
    exact ⟨t, o, XS.icmpNo X.here hx rfl (Jvm.hb hby hd) rfl (XT.ii_ge_f q) st, h⟩
  · obtain ⟨t, o, st, h⟩ := hF' q T locs X hG hF
    exact ⟨t, o, XS.icmpYes X.here hx rfl rfl (Jvm.hb hby hd) rfl (XT.ii_ge_t q) ho hp st, h⟩
theorem Walk.ifl_ge (W : Walk tab sig l Z a0 n0 own nm bytes maxL ret R Q J) {x y : Int64} {o : Int} {pc2 : Nat} (hd : decode bytes pc = .ok (.ifCond .ge o, 3)) (hT : (x < y) → J pc2 Ls S G k sl) (hF' : ¬ (x < y) → J pc' Ls S G k sl) (ho : 0 ≤ (pc : Int) + o := by decide) (hp : ((pc : Int) + o).toNat = pc' := by decide) (hp2 : pc + 3 = pc2 := by rfl) : J pc Ls (.int (XT.cmpL x y) :: S) G k sl := by
  obtain ⟨p, e, s, m, args, below, meth, c, rfl, hx, hby, hml, hret, hlk, hnm, hZ, hown, hw, hS⟩ := W
  subst hp2
  intro T locs X hG hF
  by_cases q : (x < y)
  · obtain ⟨t, o, st, h⟩ := hT q T locs X hG hF
    exact ⟨t, o, XS.ifNo X.here hx rfl (Jvm.hb hby hd) rfl (XT.ll_ge_f q) st, h⟩
  · obtain ⟨t, o, st, h⟩ := hF' q T locs X hG hF
    exact ⟨t, o, XS.ifYes X.here hx rfl rfl (Jvm.hb hby hd) rfl (XT.ll_ge_t q) ho hp st, h⟩
theorem Walk.if_gt (W : Walk tab sig l Z a0 n0 own nm bytes maxL ret R Q J) {x : Int32} {o : Int} {pc2 : Nat} (hd : decode bytes pc = .ok (.ifCond .gt o, 3)) (hT : (0 < x) → J pc' Ls S G k sl) (hF' : ¬ (0 < x) → J pc2 Ls S G k sl) (ho : 0 ≤ (pc : Int) + o := by decide) (hp : ((pc : Int) + o).toNat = pc' := by decide) (hp2 : pc + 3 = pc2 := by rfl) : J pc Ls (.int x :: S) G k sl := by
  obtain ⟨p, e, s, m, args, below, meth, c, rfl, hx, hby, hml, hret, hlk, hnm, hZ, hown, hw, hS⟩ := W
  subst hp2
  intro T locs X hG hF
  by_cases q : (0 < x)
  · obtain ⟨t, o, st, h⟩ := hT q T locs X hG hF
    exact ⟨t, o, XS.ifYes X.here hx rfl rfl (Jvm.hb hby hd) rfl (XT.i0_gt_t q) ho hp st, h⟩
  · obtain ⟨t, o, st, h⟩ := hF' q T locs X hG hF
    exact ⟨t, o, XS.ifNo X.here hx rfl (Jvm.hb hby hd) rfl (XT.i0_gt_f q) st, h⟩
theorem Walk.icmp_gt (W : Walk tab sig l Z a0 n0 own nm bytes maxL ret R Q J) {x y : Int32} {o : Int} {pc2 : Nat} (hd : decode bytes pc = .ok (.if_icmp .gt o, 3)) (hT : (y < x) → J pc' Ls S G k sl) (hF' : ¬ (y < x) → J pc2 Ls S G k sl) (ho : 0 ≤ (pc : Int) + o := by decide) (hp : ((pc : Int) + o).toNat = pc' := by decide) (hp2 : pc + 3 = pc2 := by rfl) : J pc Ls (.int y :: .int x :: S) G k sl := by
  obtain ⟨p, e, s, m, args, below, meth, c, rfl, hx, hby, hml, hret, hlk, hnm, hZ, hown, hw, hS⟩ := W
  subst hp2
  intro T locs X hG hF
  by_cases q : (y < x)
  · obtain ⟨t, o, st, h⟩ := hT q T locs X hG hF
    exact ⟨t, o, XS.icmpYes X.here hx rfl rfl (Jvm.hb hby hd) rfl (XT.ii_gt_t q) ho hp st, h⟩
  · obtain ⟨t, o, st, h⟩ := hF' q T locs X hG hF
    exact ⟨t, o, XS.icmpNo X.here hx rfl (Jvm.hb hby hd) rfl (XT.ii_gt_f q) st, h⟩
theorem Walk.ifl_gt (W : Walk tab sig l Z a0 n0 own nm bytes maxL ret R Q J) {x y : Int64} {o : Int} {pc2 : Nat} (hd : decode bytes pc = .ok (.ifCond .gt o, 3)) (hT : (y < x) → J pc' Ls S G k sl) (hF' : ¬ (y < x) → J pc2 Ls S G k sl) (ho : 0 ≤ (pc : Int) + o := by decide) (hp : ((pc : Int) + o).toNat = pc' := by decide) (hp2 : pc + 3 = pc2 := by rfl) : J pc Ls (.int (XT.cmpL x y) :: S) G k sl := by
  obtain ⟨p, e, s, m, args, below, meth, c, rfl, hx, hby, hml, hret, hlk, hnm, hZ, hown, hw, hS⟩ := W
  subst hp2
  intro T locs X hG hF
  by_cases q : (y < x)
  · obtain ⟨t, o, st, h⟩ := hT q T locs X hG hF
    exact ⟨t, o, XS.ifYes X.here hx rfl rfl (Jvm.hb hby hd) rfl (XT.ll_gt_t q) ho hp st, h⟩
  · obtain ⟨t, o, st, h⟩ := hF' q T locs X hG hF
    exact ⟨t, o, XS.ifNo X.here hx rfl (Jvm.hb hby hd) rfl (XT.ll_gt_f q) st, h⟩
theorem Walk.if_le (W : Walk tab sig l Z a0 n0 own nm bytes maxL ret R Q J) {x : Int32} {o : Int} {pc2 : Nat} (hd : decode bytes pc = .ok (.ifCond .le o, 3)) (hT : (0 < x) → J pc2 Ls S G k sl) (hF' : ¬ (0 < x) → J pc' Ls S G k sl) (ho : 0 ≤ (pc : Int) + o := by decide) (hp : ((pc : Int) + o).toNat = pc' := by decide) (hp2 : pc + 3 = pc2 := by rfl) : J pc Ls (.int x :: S) G k sl := by
  obtain ⟨p, e, s, m, args, below, meth, c, rfl, hx, hby, hml, hret, hlk, hnm, hZ, hown, hw, hS⟩ := W
  subst hp2
  intro T locs X hG hF
  by_cases q : (0 < x)
  · obtain ⟨t, o, st, h⟩ := hT q T locs X hG hF
    exact ⟨t, o, XS.ifNo X.here hx rfl (Jvm.hb hby hd) rfl (XT.i0_le_f q) st, h⟩
  · obtain ⟨t, o, st, h⟩ := hF' q T locs X hG hF
    exact ⟨t, o, XS.ifYes X.here hx rfl rfl (Jvm.hb hby hd) rfl (XT.i0_le_t q) ho hp st, h⟩
theorem Walk.icmp_le (W : Walk tab sig l Z a0 n0 own nm bytes maxL ret R Q J) {x y : Int32} {o : Int} {pc2 : Nat} (hd : decode bytes pc = .ok (.if_icmp .le o, 3)) (hT : (y < x) → J pc2 Ls S G k sl) (hF' : ¬ (y < x) → J pc' Ls S G k sl) (ho : 0 ≤ (pc : Int) + o := by decide) (hp : ((pc : Int) + o).toNat = pc' := by decide) (hp2 : pc + 3 = pc2 := by rfl) : J pc Ls (.int y :: .int x :: S) G k sl := by
  obtain ⟨p, e, s, m, args, below, meth, c, rfl, hx, hby, hml, hret, hlk, hnm, hZ, hown, hw, hS⟩ := W
  subst hp2
  intro T locs X hG hF
  by_cases q : (y < x)
  · obtain ⟨t, o, st, h⟩ := hT q T locs X hG hF
    exact ⟨t, o, XS.icmpNo X.here hx rfl (Jvm.hb hby hd) rfl (XT.ii_le_f q) st, h⟩
  · obtain ⟨t, o, st, h⟩ := hF' q T locs X hG hF
    exact ⟨t, o, XS.icmpYes X.here hx rfl rfl (Jvm.hb hby hd) rfl (XT.ii_le_t q) ho hp st, h⟩
theorem Walk.ifl_le (W : Walk tab sig l Z a0 n0 own nm bytes maxL ret R Q J) {x y : Int64} {o : Int} {pc2 : Nat} (hd : decode bytes pc = .ok (.ifCond .le o, 3)) (hT : (y < x) → J pc2 Ls S G k sl) (hF' : ¬ (y < x) → J pc' Ls S G k sl) (ho : 0 ≤ (pc : Int) + o := by decide) (hp : ((pc : Int) + o).toNat = pc' := by decide) (hp2 : pc + 3 = pc2 := by rfl) : J pc Ls (.int (XT.cmpL x y) :: S) G k sl := by
  obtain ⟨p, e, s, m, args, below, meth, c, rfl, hx, hby, hml, hret, hlk, hnm, hZ, hown, hw, hS⟩ := W
  subst hp2
  intro T locs X hG hF
  by_cases q : (y < x)
  · obtain ⟨t, o, st, h⟩ := hT q T locs X hG hF
    exact ⟨t, o, XS.ifNo X.here hx rfl (Jvm.hb hby hd) rfl (XT.ll_le_f q) st, h⟩
  · obtain ⟨t, o, st, h⟩ := hF' q T locs X hG hF
    exact ⟨t, o, XS.ifYes X.here hx rfl rfl (Jvm.hb hby hd) rfl (XT.ll_le_t q) ho hp st, h⟩
theorem Walk.ifnull_t (W : Walk tab sig l Z a0 n0 own nm bytes maxL ret R Q J)  {o : Int} (hd : decode bytes pc = .ok (.ifnull o, 3)) (hr : J pc' Ls S G k sl) (ho : 0 ≤ (pc : Int) + o := by decide) (hp : ((pc : Int) + o).toNat = pc' := by decide) : J pc Ls (.null :: S) G k sl := by
  obtain ⟨p, e, s, m, args, below, meth, c, rfl, hx, hby, hml, hret, hlk, hnm, hZ, hown, hw, hS⟩ := W
  intro T locs X hG hF
  obtain ⟨t, o, st, h⟩ := hr T locs X hG hF
  exact ⟨t, o, XS.ifnullYes X.here hx rfl rfl (Jvm.hb hby hd) rfl ho hp st, h⟩
theorem Walk.ifnull_f (W : Walk tab sig l Z a0 n0 own nm bytes maxL ret R Q J) {a : Addr} {o : Int} (hd : decode bytes pc = .ok (.ifnull o, 3)) (hr : J pc' Ls S G k sl) (hp : pc + 3 = pc' := by rfl) : J pc Ls (.ref a :: S) G k sl := by
  obtain ⟨p, e, s, m, args, below, meth, c, rfl, hx, hby, hml, hret, hlk, hnm, hZ, hown, hw, hS⟩ := W
  subst hp
  intro T locs X hG hF
  obtain ⟨t, o, st, h⟩ := hr T locs X hG hF
  exact ⟨t, o, XS.ifnullNo X.here hx rfl (Jvm.hb hby hd) rfl st, h⟩
theorem Walk.ifnonnull_t (W : Walk tab sig l Z a0 n0 own nm bytes maxL ret R Q J) {a : Addr} {o : Int} (hd : decode bytes pc = .ok (.ifnonnull o, 3)) (hr : J pc' Ls S G k sl) (ho : 0 ≤ (pc : Int) + o := by decide) (hp : ((pc : Int) + o).toNat = pc' := by decide) : J pc Ls (.ref a :: S) G k sl := by
  obtain ⟨p, e, s, m, args, below, meth, c, rfl, hx, hby, hml, hret, hlk, hnm, hZ, hown, hw, hS⟩ := W
  intro T locs X hG hF
  obtain ⟨t, o, st, h⟩ := hr T locs X hG hF
  exact ⟨t, o, XT.ifnonnullYes X.here hx rfl rfl (Jvm.hb hby hd) rfl ho hp st, h⟩
theorem Walk.ifnonnull_f (W : Walk tab sig l Z a0 n0 own nm bytes maxL ret R Q J)  {o : Int} (hd : decode bytes pc = .ok (.ifnonnull o, 3)) (hr : J pc' Ls S G k sl) (hp : pc + 3 = pc' := by rfl) : J pc Ls (.null :: S) G k sl := by
  obtain ⟨p, e, s, m, args, below, meth, c, rfl, hx, hby, hml, hret, hlk, hnm, hZ, hown, hw, hS⟩ := W
  subst hp
  intro T locs X hG hF
  obtain ⟨t, o, st, h⟩ := hr T locs X hG hF
  exact ⟨t, o, XT.ifnonnullNo X.here hx rfl (Jvm.hb hby hd) rfl st, h⟩
theorem Walk.acmp_eq_t (W : Walk tab sig l Z a0 n0 own nm bytes maxL ret R Q J) {x y : Value} {o : Int} (hd : decode bytes pc = .ok (.if_acmp .eq o, 3)) (h1 : x.isRef = true) (h2 : y.isRef = true) (q : x = y) (hr : J pc' Ls S G k sl) (ho : 0 ≤ (pc : Int) + o := by decide) (hp : ((pc : Int) + o).toNat = pc' := by decide) : J pc Ls (y :: x :: S) G k sl := by
  obtain ⟨p, e, s, m, args, below, meth, c, rfl, hx, hby, hml, hret, hlk, hnm, hZ, hown, hw, hS⟩ := W
  intro T locs X hG hF
  obtain ⟨t, o, st, h⟩ := hr T locs X hG hF
  exact ⟨t, o, XT.acmpYes X.here hx rfl rfl (Jvm.hb hby hd) rfl h1 h2 (XT.aa_eq_t q) ho hp st, h⟩
theorem Walk.acmp_eq_f (W : Walk tab sig l Z a0 n0 own nm bytes maxL ret R Q J) {x y : Value} {o : Int} (hd : decode bytes pc = .ok (.if_acmp .eq o, 3)) (h1 : x.isRef = true) (h2 : y.isRef = true) (q : ¬ x = y) (hr : J pc' Ls S G k sl) (hp : pc + 3 = pc' := by rfl) : J pc Ls (y :: x :: S) G k sl := by
  obtain ⟨p, e, s, m, args, below, meth, c, rfl, hx, hby, hml, hret, hlk, hnm, hZ, hown, hw, hS⟩ := W
  subst hp
  intro T locs X hG hF
  obtain ⟨t, o, st, h⟩ := hr T locs X hG hF
  exact ⟨t, o, XT.acmpNo X.here hx rfl (Jvm.hb hby hd) rfl h1 h2 (XT.aa_eq_f q) st, h⟩
theorem Walk.acmp_ne_t (W : Walk tab sig l Z a0 n0 own nm bytes maxL ret R Q J) {x y : Value} {o : Int} (hd : decode bytes pc = .ok (.if_acmp .ne o, 3)) (h1 : x.isRef = true) (h2 : y.isRef = true) (q : ¬ x = y) (hr : J pc' Ls S G k sl) (ho : 0 ≤ (pc : Int) + o := by decide) (hp : ((pc : Int) + o).toNat = pc' := by decide) : J pc Ls (y :: x :: S) G k sl := by
  obtain ⟨p, e, s, m, args, below, meth, c, rfl, hx, hby, hml, hret, hlk, hnm, hZ, hown, hw, hS⟩ := W
  intro T locs X hG hF
  obtain ⟨t, o, st, h⟩ := hr T locs X hG hF
  exact ⟨t, o, XT.acmpYes X.here hx rfl rfl (Jvm.hb hby hd) rfl h1 h2 (XT.aa_ne_t q) ho hp st, h⟩
theorem Walk.acmp_ne_f (W : Walk tab sig l Z a0 n0 own nm bytes maxL ret R Q J) {x y : Value} {o : Int} (hd : decode bytes pc = .ok (.if_acmp .ne o, 3)) (h1 : x.isRef = true) (h2 : y.isRef = true) (q : x = y) (hr : J pc' Ls S G k sl) (hp : pc + 3 = pc' := by rfl) : J pc Ls (y :: x :: S) G k sl := by
  obtain ⟨p, e, s, m, args, below, meth, c, rfl, hx, hby, hml, hret, hlk, hnm, hZ, hown, hw, hS⟩ := W
  subst hp
  intro T locs X hG hF
  obtain ⟨t, o, st, h⟩ := hr T locs X hG hF
  exact ⟨t, o, XT.acmpNo X.here hx rfl (Jvm.hb hby hd) rfl h1 h2 (XT.aa_ne_f q) st, h⟩
theorem Walk.dia_if_eq (W : Walk tab sig l Z a0 n0 own nm bytes maxL ret R Q J) {x : Int32} {o i1 o2 i3 : Int} {pc2 pe : Nat} (va vb : Int32) (hd : decode bytes pc = .ok (.ifCond .eq o, 3)) (h1 : decode bytes pc2 = .ok (.iconst i1, 1)) (h2 : decode bytes (pc2 + 1) = .ok (.goto o2, 3)) (h3 : decode bytes pc' = .ok (.iconst i3, 1)) (e1 : Int32.ofInt i1 = va) (e3 : Int32.ofInt i3 = vb)
    (hr : J pe Ls (.int (if (x = 0) then vb else va) :: S) G k sl) (ho : 0 ≤ (pc : Int) + o := by decide) (hp : ((pc : Int) + o).toNat = pc' := by decide) (hp2 : pc + 3 = pc2 := by rfl) (ho2 : 0 ≤ ((pc2 + 1 : Nat) : Int) + o2 := by decide) (hp3 : (((pc2 + 1 : Nat) : Int) + o2).toNat = pe := by decide) (hp4 : pc' + 1 = pe := by rfl) : J pc Ls (.int x :: S) G k sl := by
  refine W.if_eq (pc' := pc') (pc2 := pc2) hd (fun q => ?_) (fun q => ?_) ho hp hp2
  · rw [if_pos q] at hr
    exact W.iconst vb h3 e3 hr hp4
  · rw [if_neg q] at hr
    exact W.iconst va h1 e1 (W.goto h2 hr ho2 hp3) rfl
theorem Walk.dia_icmp_eq (W : Walk tab sig l Z a0 n0 own nm bytes maxL ret R Q J) {x y : Int32} {o i1 o2 i3 : Int} {pc2 pe : Nat} (va vb : Int32) (hd : decode bytes pc = .ok (.if_icmp .eq o, 3)) (h1 : decode bytes pc2 = .ok (.iconst i1, 1)) (h2 : decode bytes (pc2 + 1) = .ok (.goto o2, 3)) (h3 : decode bytes pc' = .ok (.iconst i3, 1)) (e1 : Int32.ofInt i1 = va) (e3 : Int32.ofInt i3 = vb)
    (hr : J pe Ls (.int (if (x = y) then vb else va) :: S) G k sl) (ho : 0 ≤ (pc : Int) + o := by decide) (hp : ((pc : Int) + o).toNat = pc' := by decide) (hp2 : pc + 3 = pc2 := by rfl) (ho2 : 0 ≤ ((pc2 + 1 : Nat) : Int) + o2 := by decide) (hp3 : (((pc2 + 1 : Nat) : Int) + o2).toNat = pe := by decide) (hp4 : pc' + 1 = pe := by rfl) : J pc Ls (.int y :: .int x :: S) G k sl := by
  refine W.icmp_eq (pc' := pc') (pc2 := pc2) hd (fun q => ?_) (fun q => ?_) ho hp hp2
  · rw [if_pos q] at hr
    exact W.iconst vb h3 e3 hr hp4
  · rw [if_neg q] at hr
    exact W.iconst va h1 e1 (W.goto h2 hr ho2 hp3) rfl
theorem Walk.dia_ifl_eq (W : Walk tab sig l Z a0 n0 own nm bytes maxL ret R Q J) {x y : Int64} {o i1 o2 i3 : Int} {pc2 pe : Nat} (va vb : Int32) (hd : decode bytes pc = .ok (.ifCond .eq o, 3)) (h1 : decode bytes pc2 = .ok (.iconst i1, 1)) (h2 : decode bytes (pc2 + 1) = .ok (.goto o2, 3)) (h3 : decode bytes pc' = .ok (.iconst i3, 1)) (e1 : Int32.ofInt i1 = va) (e3 : Int32.ofInt i3 = vb)
    (hr : J pe Ls (.int (if (x = y) then vb else va) :: S) G k sl) (ho : 0 ≤ (pc : Int) + o := by decide) (hp : ((pc : Int) + o).toNat = pc' := by decide) (hp2 : pc + 3 = pc2 := by rfl) (ho2 : 0 ≤ ((pc2 + 1 : Nat) : Int) + o2 := by decide) (hp3 : (((pc2 + 1 : Nat) : Int) + o2).toNat = pe := by decide) (hp4 : pc' + 1 = pe := by rfl) : J pc Ls (.int (XT.cmpL x y) :: S) G k sl := by
  refine W.ifl_eq (pc' := pc') (pc2 := pc2) hd (fun q => ?_) (fun q => ?_) ho hp hp2
  · rw [if_pos q] at hr
    exact W.iconst vb h3 e3 hr hp4
  · rw [if_neg q] at hr
    exact W.iconst va h1 e1 (W.goto h2 hr ho2 hp3) rfl
theorem Walk.dia_if_ne (W : Walk tab sig l Z a0 n0 own nm bytes maxL ret R Q J) {x : Int32} {o i1 o2 i3 : Int} {pc2 pe : Nat} (va vb : Int32) (hd : decode bytes pc = .ok (.ifCond .ne o, 3)) (h1 : decode bytes pc2 = .ok (.iconst i1, 1)) (h2 : decode bytes (pc2 + 1) = .ok (.goto o2, 3)) (h3 : decode bytes pc' = .ok (.iconst i3, 1)) (e1 : Int32.ofInt i1 = va) (e3 : Int32.ofInt i3 = vb)
    (hr : J pe Ls (.int (if (x = 0) then va else vb) :: S) G k sl) (ho : 0 ≤ (pc : Int) + o := by decide) (hp : ((pc : Int) + o).toNat = pc' := by decide) (hp2 : pc + 3 = pc2 := by rfl) (ho2 : 0 ≤ ((pc2 + 1 : Nat) : Int) + o2 := by decide) (hp3 : (((pc2 + 1 : Nat) : Int) + o2).toNat = pe := by decide) (hp4 : pc' + 1 = pe := by rfl) : J pc Ls (.int x :: S) G k sl := by
  refine W.if_ne (pc' := pc') (pc2 := pc2) hd (fun q => ?_) (fun q => ?_) ho hp hp2
  · rw [if_pos q] at hr
    exact W.iconst va h1 e1 (W.goto h2 hr ho2 hp3) rfl
  · rw [if_neg q] at hr
    exact W.iconst vb h3 e3 hr hp4
theorem Walk.dia_icmp_ne (W : Walk tab sig l Z a0 n0 own nm bytes maxL ret R Q J) {x y : Int32} {o i1 o2 i3 : Int} {pc2 pe : Nat} (va vb : Int32) (hd : decode bytes pc = .ok (.if_icmp .ne o, 3)) (h1 : decode bytes pc2 = .ok (.iconst i1, 1)) (h2 : decode bytes (pc2 + 1) = .ok (.goto o2, 3)) (h3 : decode bytes pc' = .ok (.iconst i3, 1)) (e1 : Int32.ofInt i1 = va) (e3 : Int32.ofInt i3 = vb)
    (hr : J pe Ls (.int (if (x = y) then va else vb) :: S) G k sl) (ho : 0 ≤ (pc : Int) + o := by decide) (hp : ((pc : Int) + o).toNat = pc' := by decide) (hp2 : pc + 3 = pc2 := by rfl) (ho2 : 0 ≤ ((pc2 + 1 : Nat) : Int) + o2 := by decide) (hp3 : (((pc2 + 1 : Nat) : Int) + o2).toNat = pe := by decide) (hp4 : pc' + 1 = pe := by rfl) : J pc Ls (.int y :: .int x :: S) G k sl := by
  refine W.icmp_ne (pc' := pc') (pc2 := pc2) hd (fun q => ?_) (fun q => ?_) ho hp hp2
  · rw [if_pos q] at hr
    exact W.iconst va h1 e1 (W.goto h2 hr ho2 hp3) rfl
  · rw [if_neg q] at hr
    exact W.iconst vb h3 e3 hr hp4
theorem Walk.dia_ifl_ne (W : Walk tab sig l Z a0 n0 own nm bytes maxL ret R Q J) {x y : Int64} {o i1 o2 i3 : Int} {pc2 pe : Nat} (va vb : Int32) (hd : decode bytes pc = .ok (.ifCond .ne o, 3)) (h1 : decode bytes pc2 = .ok (.iconst i1, 1)) (h2 : decode bytes (pc2 + 1) = .ok (.goto o2, 3)) (h3 : decode bytes pc' = .ok (.iconst i3, 1)) (e1 : Int32.ofInt i1 = va) (e3 : Int32.ofInt i3 = vb)
    (hr : J pe Ls (.int (if (x = y) then va else vb) :: S) G k sl) (ho : 0 ≤ (pc : Int) + o := by decide) (hp : ((pc : Int) + o).toNat = pc' := by decide) (hp2 : pc + 3 = pc2 := by rfl) (ho2 : 0 ≤ ((pc2 + 1 : Nat) : Int) + o2 := by decide) (hp3 : (((pc2 + 1 : Nat) : Int) + o2).toNat = pe := by decide) (hp4 : pc' + 1 = pe := by rfl) : J pc Ls (.int (XT.cmpL x y) :: S) G k sl := by
  refine W.ifl_ne (pc' := pc') (pc2 := pc2) hd (fun q => ?_) (fun q => ?_) ho hp hp2
  · rw [if_pos q] at hr
    exact W.iconst va h1 e1 (W.goto h2 hr ho2 hp3) rfl
  · rw [if_neg q] at hr
    exact W.iconst vb h3 e3 hr hp4
theorem Walk.dia_if_lt (W : Walk tab sig l Z a0 n0 own nm bytes maxL ret R Q J) {x : Int32} {o i1 o2 i3 : Int} {pc2 pe : Nat} (va vb : Int32) (hd : decode bytes pc = .ok (.ifCond .lt o, 3)) (h1 : decode bytes pc2 = .ok (.iconst i1, 1)) (h2 : decode bytes (pc2 + 1) = .ok (.goto o2, 3)) (h3 : decode bytes pc' = .ok (.iconst i3, 1)) (e1 : Int32.ofInt i1 = va) (e3 : Int32.ofInt i3 = vb)
    (hr : J pe Ls (.int (if (x < 0) then vb else va) :: S) G k sl) (ho : 0 ≤ (pc : Int) + o := by decide) (hp : ((pc : Int) + o).toNat = pc' := by decide) (hp2 : pc + 3 = pc2 := by rfl) (ho2 : 0 ≤ ((pc2 + 1 : Nat) : Int) + o2 := by decide) (hp3 : (((pc2 + 1 : Nat) : Int) + o2).toNat = pe := by decide) (hp4 : pc' + 1 = pe := by rfl) : J pc Ls (.int x :: S) G k sl := by
  refine W.if_lt (pc' := pc') (pc2 := pc2) hd (fun q => ?_) (fun q => ?_) ho hp hp2
  · rw [if_pos q] at hr
    exact W.iconst vb h3 e3 hr hp4
  · rw [if_neg q] at hr
    exact W.iconst va h1 e1 (W.goto h2 hr ho2 hp3) rfl
theorem Walk.dia_icmp_lt (W : Walk tab sig l Z a0 n0 own nm bytes maxL ret R Q J) {x y : Int32} {o i1 o2 i3 : Int} {pc2 pe : Nat} (va vb : Int32) (hd : decode bytes pc = .ok (.if_icmp .lt o, 3)) (h1 : decode bytes pc2 = .ok (.iconst i1, 1)) (h2 : decode bytes (pc2 + 1) = .ok (.goto o2, 3)) (h3 : decode bytes pc' = .ok (.iconst i3, 1)) (e1 : Int32.ofInt i1 = va) (e3 : Int32.ofInt i3 = vb)
    (hr : J pe Ls (.int (if (x < y) then vb else va) :: S) G k sl) (ho : 0 ≤ (pc : Int) + o := by decide) (hp : ((pc : Int) + o).toNat = pc' := by decide) (hp2 : pc + 3 = pc2 := by rfl) (ho2 : 0 ≤ ((pc2 + 1 : Nat) : Int) + o2 := by decide) (hp3 : (((pc2 + 1 : Nat) : Int) + o2).toNat = pe := by decide) (hp4 : pc' + 1 = pe := by rfl) : J pc Ls (.int y :: .int x :: S) G k sl := by
  refine W.icmp_lt (pc' := pc') (pc2 := pc2) hd (fun q => ?_) (fun q => ?_) ho hp hp2
  · rw [if_pos q] at hr
    exact W.iconst vb h3 e3 hr hp4
  · rw [if_neg q] at hr
    exact W.iconst va h1 e1 (W.goto h2 hr ho2 hp3) rfl
theorem Walk.dia_ifl_lt (W : Walk tab sig l Z a0 n0 own nm bytes maxL ret R Q J) {x y : Int64} {o i1 o2 i3 : Int} {pc2 pe : Nat} (va vb : Int32) (hd : decode bytes pc = .ok (.ifCond .lt o, 3)) (h1 : decode bytes pc2 = .ok (.iconst i1, 1)) (h2 : decode bytes (pc2 + 1) = .ok (.goto o2, 3)) (h3 : decode bytes pc' = .ok (.iconst i3, 1)) (e1 : Int32.ofInt i1 = va) (e3 : Int32.ofInt i3 = vb)
    (hr : J pe Ls (.int (if (x < y) then vb else va) :: S) G k sl) (ho : 0 ≤ (pc : Int) + o := by decide) (hp : ((pc : Int) + o).toNat = pc' := by decide) (hp2 : pc + 3 = pc2 := by rfl) (ho2 : 0 ≤ ((pc2 + 1 : Nat) : Int) + o2 := by decide) (hp3 : (((pc2 + 1 : Nat) : Int) + o2).toNat = pe := by decide) (hp4 : pc' + 1 = pe := by rfl) : J pc Ls (.int (XT.cmpL x y) :: S) G k sl := by
  refine W.ifl_lt (pc' := pc') (pc2 := pc2) hd (fun q => ?_) (fun q => ?_) ho hp hp2
  · rw [if_pos q] at hr
    exact W.iconst vb h3 e3 hr hp4
  · rw [if_neg q] at hr
    exact W.iconst va h1 e1 (W.goto h2 hr ho2 hp3) rfl
theorem Walk.dia_if_ge (W : Walk tab sig l Z a0 n0 own nm bytes maxL ret R Q J) {x : Int32} {o i1 o2 i3 : Int} {pc2 pe : Nat} (va vb : Int32) (hd : decode bytes pc = .ok (.ifCond .ge o, 3)) (h1 : decode bytes pc2 = .ok (.iconst i1, 1)) (h2 : decode bytes (pc2 + 1) = .ok (.goto o2, 3)) (h3 : decode bytes pc' = .ok (.iconst i3, 1)) (e1 : Int32.ofInt i1 = va) (e3 : Int32.ofInt i3 = vb)
    (hr : J pe Ls (.int (if (x < 0) then va else vb) :: S) G k sl) (ho : 0 ≤ (pc : Int) + o := by decide) (hp : ((pc : Int) + o).toNat = pc' := by decide) (hp2 : pc + 3 = pc2 := by rfl) (ho2 : 0 ≤ ((pc2 + 1 : Nat) : Int) + o2 := by decide) (hp3 : (((pc2 + 1 : Nat) : Int) + o2).toNat = pe := by decide) (hp4 : pc' + 1 = pe := by rfl) : J pc Ls (.int x :: S) G k sl := by
  refine W.if_ge (pc' := pc') (pc2 := pc2) hd (fun q => ?_) (fun q => ?_) ho hp hp2
  · rw [if_pos q] at hr
    exact W.iconst va h1 e1 (W.goto h2 hr ho2 hp3) rfl
  · rw [if_neg q] at hr
    exact W.iconst vb h3 e3 hr hp4
theorem Walk.dia_icmp_ge (W : Walk tab sig l Z a0 n0 own nm bytes maxL ret R Q J) {x y : Int32} {o i1 o2 i3 : Int} {pc2 pe : Nat} (va vb : Int32) (hd : decode bytes pc = .ok (.if_icmp .ge o, 3)) (h1 : decode bytes pc2 = .ok (.iconst i1, 1)) (h2 : decode bytes (pc2 + 1) = .ok (.goto o2, 3)) (h3 : decode bytes pc' = .ok (.iconst i3, 1)) (e1 : Int32.ofInt i1 = va) (e3 : Int32.ofInt i3 = vb)
    (hr : J pe Ls (.int (if (x < y) then va else vb) :: S) G k sl) (ho : 0 ≤ (pc : Int) + o := by decide) (hp : ((pc : Int) + o).toNat = pc' := by decide) (hp2 : pc + 3 = pc2 := by rfl) (ho2 : 0 ≤ ((pc2 + 1 : Nat) : Int) + o2 := by decide) (hp3 : (((pc2 + 1 : Nat) : Int) + o2).toNat = pe := by decide) (hp4 : pc' + 1 = pe := by rfl) : J pc Ls (.int y :: .int x :: S) G k sl := by
  refine W.icmp_ge (pc' := pc') (pc2 := pc2) hd (fun q => ?_) (fun q => ?_) ho hp hp2
  · rw [if_pos q] at hr
    exact W.iconst va h1 e1 (W.goto h2 hr ho2 hp3) rfl
  · rw [if_neg q] at hr
    exact W.iconst vb h3 e3 hr hp4
theorem Walk.dia_ifl_ge (W : Walk tab sig l Z a0 n0 own nm bytes maxL ret R Q J) {x y : Int64} {o i1 o2 i3 : Int} {pc2 pe : Nat} (va vb : Int32) (hd : decode bytes pc = .ok (.ifCond .ge o, 3)) (h1 : decode bytes pc2 = .ok (.iconst i1, 1)) (h2 : decode bytes (pc2 + 1) = .ok (.goto o2, 3)) (h3 : decode bytes pc' = .ok (.iconst i3, 1)) (e1 : Int32.ofInt i1 = va) (e3 : Int32.ofInt i3 = vb)
    (hr : J pe Ls (.int (if (x < y) then va else vb) :: S) G k sl) (ho : 0 ≤ (pc : Int) + o := by decide) (hp : ((pc : Int) + o).toNat = pc' := by decide) (hp2 : pc + 3 = pc2 := by rfl) (ho2 : 0 ≤ ((pc2 + 1 : Nat) : Int) + o2 := by decide) (hp3 : (((pc2 + 1 : Nat) : Int) + o2).toNat = pe := by decide) (hp4 : pc' + 1 = pe := by rfl) : J pc Ls (.int (XT.cmpL x y) :: S) G k sl := by
  refine W.ifl_ge (pc' := pc') (pc2 := pc2) hd (fun q => ?_) (fun q => ?_) ho hp hp2
  · rw [if_pos q] at hr
    exact W.iconst va h1 e1 (W.goto h2 hr ho2 hp3) rfl
  · rw [if_neg q] at hr
    exact W.iconst vb h3 e3 hr hp4
theorem Walk.dia_if_gt (W : Walk tab sig l Z a0 n0 own nm bytes maxL ret R Q J) {x : Int32} {o i1 o2 i3 : Int} {pc2 pe : Nat} (va vb : Int32) (hd : decode bytes pc = .ok (.ifCond .gt o, 3)) (h1 : decode bytes pc2 = .ok (.iconst i1, 1)) (h2 : decode bytes (pc2 + 1) = .ok (.goto o2, 3)) (h3 : decode bytes pc' = .ok (.iconst i3, 1)) (e1 : Int32.ofInt i1 = va) (e3 : Int32.ofInt i3 = vb)
    (hr : J pe Ls (.int (if (0 < x) then vb else va) :: S) G k sl) (ho : 0 ≤ (pc : Int) + o := by decide) (hp : ((pc : Int) + o).toNat = pc' := by decide) (hp2 : pc + 3 = pc2 := by rfl) (ho2 : 0 ≤ ((pc2 + 1 : Nat) : Int) + o2 := by decide) (hp3 : (((pc2 + 1 : Nat) : Int) + o2).toNat = pe := by decide) (hp4 : pc' + 1 = pe := by rfl) : J pc Ls (.int x :: S) G k sl := by
  refine W.if_gt (pc' := pc') (pc2 := pc2) hd (fun q => ?_) (fun q => ?_) ho hp hp2
  · rw [if_pos q] at hr
    exact W.iconst vb h3 e3 hr hp4
  · rw [if_neg q] at hr
    exact W.iconst va h1 e1 (W.goto h2 hr ho2 hp3) rfl
theorem Walk.dia_icmp_gt (W : Walk tab sig l Z a0 n0 own nm bytes maxL ret R Q J) {x y : Int32} {o i1 o2 i3 : Int} {pc2 pe : Nat} (va vb : Int32) (hd : decode bytes pc = .ok (.if_icmp .gt o, 3)) (h1 : decode bytes pc2 = .ok (.iconst i1, 1)) (h2 : decode bytes (pc2 + 1) = .ok (.goto o2, 3)) (h3 : decode bytes pc' = .ok (.iconst i3, 1)) (e1 : Int32.ofInt i1 = va) (e3 : Int32.ofInt i3 = vb)
    (hr : J pe Ls (.int (if (y < x) then vb else va) :: S) G k sl) (ho : 0 ≤ (pc : Int) + o := by decide) (hp : ((pc : Int) + o).toNat = pc' := by decide) (hp2 : pc + 3 = pc2 := by rfl) (ho2 : 0 ≤ ((pc2 + 1 : Nat) : Int) + o2 := by decide) (hp3 : (((pc2 + 1 : Nat) : Int) + o2).toNat = pe := by decide) (hp4 : pc' + 1 = pe := by rfl) : J pc Ls (.int y :: .int x :: S) G k sl := by
  refine W.icmp_gt (pc' := pc') (pc2 := pc2) hd (fun q => ?_) (fun q => ?_) ho hp hp2
  · rw [if_pos q] at hr
    exact W.iconst vb h3 e3 hr hp4
  · rw [if_neg q] at hr
    exact W.iconst va h1 e1 (W.goto h2 hr ho2 hp3) rfl
theorem Walk.dia_ifl_gt (W : Walk tab sig l Z a0 n0 own nm bytes maxL ret R Q J) {x y : Int64} {o i1 o2 i3 : Int} {pc2 pe : Nat} (va vb : Int32) (hd : decode bytes pc = .ok (.ifCond .gt o, 3)) (h1 : decode bytes pc2 = .ok (.iconst i1, 1)) (h2 : decode bytes (pc2 + 1) = .ok (.goto o2, 3)) (h3 : decode bytes pc' = .ok (.iconst i3, 1)) (e1 : Int32.ofInt i1 = va) (e3 : Int32.ofInt i3 = vb)
    (hr : J pe Ls (.int (if (y < x) then vb else va) :: S) G k sl) (ho : 0 ≤ (pc : Int) + o := by decide) (hp : ((pc : Int) + o).toNat = pc' := by decide) (hp2 : pc + 3 = pc2 := by rfl) (ho2 : 0 ≤ ((pc2 + 1 : Nat) : Int) + o2 := by decide) (hp3 : (((pc2 + 1 : Nat) : Int) + o2).toNat = pe := by decide) (hp4 : pc' + 1 = pe := by rfl) : J pc Ls (.int (XT.cmpL x y) :: S) G k sl := by
  refine W.ifl_gt (pc' := pc') (pc2 := pc2) hd (fun q => ?_) (fun q => ?_) ho hp hp2
  · rw [if_pos q] at hr
    exact W.iconst vb h3 e3 hr hp4
  · rw [if_neg q] at hr
    exact W.iconst va h1 e1 (W.goto h2 hr ho2 hp3) rfl
theorem Walk.dia_if_le (W : Walk tab sig l Z a0 n0 own nm bytes maxL ret R Q J) {x : Int32} {o i1 o2 i3 : Int} {pc2 pe : Nat} (va vb : Int32) (hd : decode bytes pc = .ok (.ifCond .le o, 3)) (h1 : decode bytes pc2 = .ok (.iconst i1, 1)) (h2 : decode bytes (pc2 + 1) = .ok (.goto o2, 3)) (h3 : decode bytes pc' = .ok (.iconst i3, 1)) (e1 : Int32.ofInt i1 = va) (e3 : Int32.ofInt i3 = vb)
    (hr : J pe Ls (.int (if (0 < x) then va else vb) :: S) G k sl) (ho : 0 ≤ (pc : Int) + o := by decide) (hp : ((pc : Int) + o).toNat = pc' := by decide) (hp2 : pc + 3 = pc2 := by rfl) (ho2 : 0 ≤ ((pc2 + 1 : Nat) : Int) + o2 := by decide) (hp3 : (((pc2 + 1 : Nat) : Int) + o2).toNat = pe := by decide) (hp4 : pc' + 1 = pe := by rfl) : J pc Ls (.int x :: S) G k sl := by
  refine W.if_le (pc' := pc') (pc2 := pc2) hd (fun q => ?_) (fun q => ?_) ho hp hp2
  · rw [if_pos q] at hr
    exact W.iconst va h1 e1 (W.goto h2 hr ho2 hp3) rfl
  · rw [if_neg q] at hr
    exact W.iconst vb h3 e3 hr hp4
theorem Walk.dia_icmp_le (W : Walk tab sig l Z a0 n0 own nm bytes maxL ret R Q J) {x y : Int32} {o i1 o2 i3 : Int} {pc2 pe : Nat} (va vb : Int32) (hd : decode bytes pc = .ok (.if_icmp .le o, 3)) (h1 : decode bytes pc2 = .ok (.iconst i1, 1)) (h2 : decode bytes (pc2 + 1) = .ok (.goto o2, 3)) (h3 : decode bytes pc' = .ok (.iconst i3, 1)) (e1 : Int32.ofInt i1 = va) (e3 : Int32.ofInt i3 = vb)
    (hr : J pe Ls (.int (if (y < x) then va else vb) :: S) G k sl) (ho : 0 ≤ (pc : Int) + o := by decide) (hp : ((pc : Int) + o).toNat = pc' := by decide) (hp2 : pc + 3 = pc2 := by rfl) (ho2 : 0 ≤ ((pc2 + 1 : Nat) : Int) + o2 := by decide) (hp3 : (((pc2 + 1 : Nat) : Int) + o2).toNat = pe := by decide) (hp4 : pc' + 1 = pe := by rfl) : J pc Ls (.int y :: .int x :: S) G k sl := by
  refine W.icmp_le (pc' := pc') (pc2 := pc2) hd (fun q => ?_) (fun q => ?_) ho hp hp2
  · rw [if_pos q] at hr
    exact W.iconst va h1 e1 (W.goto h2 hr ho2 hp3) rfl
  · rw [if_neg q] at hr
    exact W.iconst vb h3 e3 hr hp4
theorem Walk.dia_ifl_le (W : Walk tab sig l Z a0 n0 own nm bytes maxL ret R Q J) {x y : Int64} {o i1 o2 i3 : Int} {pc2 pe : Nat} (va vb : Int32) (hd : decode bytes pc = .ok (.ifCond .le o, 3)) (h1 : decode bytes pc2 = .ok (.iconst i1, 1)) (h2 : decode bytes (pc2 + 1) = .ok (.goto o2, 3)) (h3 : decode bytes pc' = .ok (.iconst i3, 1)) (e1 : Int32.ofInt i1 = va) (e3 : Int32.ofInt i3 = vb)
    (hr : J pe Ls (.int (if (y < x) then va else vb) :: S) G k sl) (ho : 0 ≤ (pc : Int) + o := by decide) (hp : ((pc : Int) + o).toNat = pc' := by decide) (hp2 : pc + 3 = pc2 := by rfl) (ho2 : 0 ≤ ((pc2 + 1 : Nat) : Int) + o2 := by decide) (hp3 : (((pc2 + 1 : Nat) : Int) + o2).toNat = pe := by decide) (hp4 : pc' + 1 = pe := by rfl) : J pc Ls (.int (XT.cmpL x y) :: S) G k sl := by
  refine W.ifl_le (pc' := pc') (pc2 := pc2) hd (fun q => ?_) (fun q => ?_) ho hp hp2
  · rw [if_pos q] at hr
    exact W.iconst va h1 e1 (W.goto h2 hr ho2 hp3) rfl
  · rw [if_neg q] at hr
    exact W.iconst vb h3 e3 hr hp4
end Steps
/-! ## the ghost heap over a step that writes or makes -/
section Heap
variable {tab : List Jvm.Cond} {sig : Sig} {l : Launch} {Z : State} {a0 : Array Value} {n0 : Nat} {own nm : String} {bytes : ByteArray} {maxL : Nat} {ret : Option FieldType} {R : Room} {Q : Post} {J : JT} {pc pc' : Nat} {Ls : List Slot} {S : List Value} {G : Ghost} {k sl : Nat} {h h' : Heap} {a b : Addr} {o : Obj} {v w : Value} {j : Nat}
theorem ObjAt.other {sl' : Nat} (W : Wr h h' a sl' v) (hne : b ≠ a) (F : ObjAt sig Z h b o) : ObjAt sig Z h' b o := by
  obtain ⟨t, vs⟩ := o
  cases t with
  | inl ci =>
    obtain ⟨C, n, fs, h1, h2, h3, h4⟩ := F
    exact ⟨C, n, fs, h1, h2.wr W, h3, fun i O nm d ty v hf hv => Fld.other W (h4 i O nm d ty v hf hv) (Or.inl hne)⟩
  | inr ty =>
    obtain ⟨c, h1, h2⟩ := F
    exact ⟨c, h1.other W hne, h2⟩
theorem ObjAt.ext (E : Ext h h') (F : ObjAt sig Z h b o) : ObjAt sig Z h' b o := by
  obtain ⟨t, vs⟩ := o
  cases t with
  | inl ci =>
    obtain ⟨C, n, fs, h1, h2, h3, h4⟩ := F
    exact ⟨C, n, fs, h1, h2.ext E, h3, fun i O nm d ty v hf hv => (h4 i O nm d ty v hf hv).ext E⟩
  | inr ty =>
    obtain ⟨c, h1, h2⟩ := F
    exact ⟨c, h1.ext E, h2⟩
theorem Rep.write {sl' : Nat} {o o' : Obj} (hG : Rep sig Z n0 h G) (W : Wr h h' (n0 + j) sl' v) (hO : G[j]? = some o) (hN : ObjAt sig Z h' (n0 + j) o') : Rep sig Z n0 h' (G.set j o') := by
  obtain ⟨rfl, h2, h3, h4⟩ := hG
  have hj : j < G.length := (List.getElem?_eq_some_iff.mp hO).1
  refine ⟨rfl, ⟨by rw [W.size]; exact h2.1, fun a c hc => ?_⟩, by rw [W.size, h3]; simp, fun k o2 hk => ?_⟩
  · obtain ⟨c', e1, -, -, -, e5, -⟩ := wr_at W (h2.2 a c hc)
    have : a < Z.heap.size := (Array.getElem?_eq_some_iff.mp hc).1
    rw [e1, e5 (Nat.ne_of_lt (Nat.lt_of_lt_of_le this (Nat.le_add_right _ _)))]
  · by_cases q : k = j
    · subst q
      rw [List.getElem?_set_self hj] at hk
      cases hk
      exact hN
    · rw [List.getElem?_set_ne (fun z => q z.symm)] at hk
      exact ObjAt.other W (fun z => q (Nat.add_left_cancel z)) (h4 k o2 hk)
theorem Rep.push {o' : Obj} (hG : Rep sig Z n0 h G) (E : Ext h h') (hs : h'.size = h.size + 1) (hN : ObjAt sig Z h' h.size o') : Rep sig Z n0 h' (G ++ [o']) := by
  obtain ⟨rfl, h2, h3, h4⟩ := hG
  refine ⟨rfl, ⟨Nat.le_trans h2.1 E.1, fun a c hc => E.2 a c (h2.2 a c hc)⟩, by rw [hs, h3]; simp; omega, fun k o2 hk => ?_⟩
  rcases Nat.lt_or_ge k G.length with q | q
  · rw [List.getElem?_append_left q] at hk
    exact (h4 k o2 hk).ext E
  · rw [List.getElem?_append_right q] at hk
    cases hq : k - G.length with
    | zero =>
      rw [hq] at hk
      cases hk
      have e : k = G.length := by omega
      have : Z.heap.size + k = h.size := by rw [h3, e]
      rw [this]
      exact hN
    | succ n => rw [hq] at hk; cases hk
theorem Rep.start (Z : State) : Rep sig Z Z.heap.size Z.heap [] := ⟨rfl, ⟨Nat.le_refl _, fun _ _ h => h⟩, rfl, fun k o h => by cases h⟩
theorem fr_snoc {locs : List Loc} {sl' : Nat} (N : Fr n0 locs) : Fr n0 (locs ++ [⟨n0 + j, sl'⟩]) := N.app fun y hy => by cases List.mem_singleton.mp hy; exact Nat.le_add_right _ _
theorem Walk.getfield (W : Walk tab sig l Z a0 n0 own nm bytes maxL ret R Q J) {idx ci n : Nat} (i : Nat) {C O f d host : String} {ty : FieldType} {fs : List Fd} {vs : List Value} (hd : decode bytes pc = .ok (.getfield idx, 3))
    (hlink : Jvm.Cond.fieldLink own idx O f d ∈ tab ∨ Jvm.Cond.fieldLinkNest own idx O f d host ∈ tab) (hO : G[j]? = some (.inl ci, vs)) (hc : sig[ci]? = some (C, n, fs)) (hf : fs[i]? = some (O, f, d, ty)) (hv : vs[i]? = some v)
    (hr : J pc' Ls (v :: S) G k sl) (hp : pc + 3 = pc' := by rfl) : J pc Ls (.ref (n0 + j) :: S) G k sl := by
  obtain ⟨p, e, s, m, args, below, meth, c, rfl, hx, hby, hml, hret, hlk, hnm, hZ, hown, hw, hS⟩ := W
  subst hp
  intro T locs X hG hF
  obtain ⟨C', n', fs', e1, E, hlen, F⟩ := hG.2.2.2 j _ hO
  cases hc.symm.trans e1
  obtain ⟨T', X', e', st⟩ := getF X hx hZ hown (host := host) (hlink.imp (hw _) (hw _)) Via.refl rfl (F i O f d ty v hf hv) (g := mkF m pc Ls.toArray (.ref (n0 + j) :: S)) rfl rfl (Jvm.hb hby hd)
  obtain ⟨t, o, st2, h⟩ := hr T' locs X' (by rw [e']; exact hG) hF
  exact ⟨t, o, st _ st2, h⟩
/-- 'getfield' by an entry that the run has resolved already -/
theorem Walk.getfieldR (W : Walk tab sig l Z a0 n0 own nm bytes maxL ret R Q J) {idx ci n : Nat} (i : Nat) {C O f d : String} {ty : FieldType} {fs : List Fd} {vs : List Value} (hd : decode bytes pc = .ok (.getfield idx, 3))
    (hlink : Jvm.Cond.fieldRef own idx O f d ∈ tab) (hO : G[j]? = some (.inl ci, vs)) (hc : sig[ci]? = some (C, n, fs)) (hf : fs[i]? = some (O, f, d, ty)) (hv : vs[i]? = some v)
    (hr : J pc' Ls (v :: S) G k sl) (hp : pc + 3 = pc' := by rfl) : J pc Ls (.ref (n0 + j) :: S) G k sl := by
  obtain ⟨p, e, s, m, args, below, meth, c, rfl, hx, hby, hml, hret, hlk, hnm, hZ, hown, hw, hS⟩ := W
  subst hp
  intro T locs X hG hF
  obtain ⟨C', n', fs', e1, E, hlen, F⟩ := hG.2.2.2 j _ hO
  cases hc.symm.trans e1
  obtain ⟨cell, cf, k1, i1, fl, h1, h2, h3, h4, -, -, h7⟩ := F i O f d ty v hf hv
  have hT : Z.Warmed39 T.vm := wtrans hZ X.warmed
  have hcur : (Z.setVm T.vm).vm.findClass own = some m.cls := by
    show T.vm.findClass own = some m.cls
    rw [X.warmed.alike.findClass]; exact hown
  obtain ⟨c2, k2, i2, f2, hf2, hready⟩ := Cond.fieldRef_spec hcur (Cond.fieldRef_warmed39 hT (hw _ hlink))
  obtain ⟨k3, g1, -⟩ := State.fieldFound?_setVm (s := Z) hT.alike h2
  have g2 : (Z.setVm T.vm).fieldFound? O f d = some (cf, k3, i1, fl) := g1
  cases hf2.symm.trans g2
  obtain ⟨t, o, st2, h⟩ := hr T locs X hG hF
  refine ⟨t, o, ?_, h⟩
  have hd' := Jvm.hb hby hd
  jvm_step X.here [hx, hd', getfield.wp_ready (e := e) (s := T) (f := mkF m pc Ls.toArray (.ref (n0 + j) :: S)) X.here.top hready h3 rfl h1 h4 h7]
  exact st2
theorem Walk.putfield (W : Walk tab sig l Z a0 n0 own nm bytes maxL ret R Q J) {idx ci n : Nat} (i : Nat) {C O f d host : String} {ty : FieldType} {fs : List Fd} {vs : List Value} (hd : decode bytes pc = .ok (.putfield idx, 3))
    (hlink : Jvm.Cond.fieldLink own idx O f d ∈ tab ∨ Jvm.Cond.fieldLinkNest own idx O f d host ∈ tab) (hO : G[j]? = some (.inl ci, vs)) (hc : sig[ci]? = some (C, n, fs)) (hf : fs[i]? = some (O, f, d, ty))
    (L : Jvm.Cond.lays C O f d ∈ tab ∨ (Jvm.Cond.laysFinal C O f d ∈ tab ∧ own = O ∧ nm = "<init>")) (hn : narrow ty v = v) (hfit : fits ty v = true)
    (hr : J pc' Ls S (G.set j (.inl ci, vs.set i v)) k sl) (hp : pc + 3 = pc' := by rfl) : J pc Ls (v :: .ref (n0 + j) :: S) G k sl := by
  obtain ⟨p, e, s, m, args, below, meth, c, rfl, hx, hby, hml, hret, hlk, rfl, hZ, hown, hw, hS⟩ := W
  subst hp
  intro T locs X hG hF
  obtain ⟨C', n', fs', e1, E, hlen, F⟩ := hG.2.2.2 j _ hO
  cases hc.symm.trans e1
  obtain ⟨s1, s2, s3⟩ := hS ci C n fs hc
  have hi : i < fs.length := (List.getElem?_eq_some_iff.mp hf).1
  have hv : vs[i]? = some vs[i] := List.getElem?_eq_getElem (by omega)
  have F1 := F i O f d ty _ hf hv
  obtain ⟨T', h', X', e', W', st⟩ := putF X hx hZ hown (host := host) (hlink.imp (hw _) (hw _)) Via.refl rfl F1 E (L.imp (hw _) fun q => ⟨hw _ q.1, q.2⟩) (hw _ s1) (s2 _ (List.mem_of_getElem? hf)).2 hn hfit (g := mkF m pc Ls.toArray (v :: .ref (n0 + j) :: S)) rfl rfl (Jvm.hb hby hd)
  have hN : ObjAt sig Z h' (n0 + j) (.inl ci, vs.set i v) := by
    refine ⟨C, n, fs, hc, E.wr W', by simp [hlen], fun i' O' f' d' ty' v' hf' hv' => ?_⟩
    by_cases q : i' = i
    · subst q
      cases hf.symm.trans hf'
      rw [List.getElem?_set_self (by omega)] at hv'
      cases hv'
      exact F1.same W'
    · rw [List.getElem?_set_ne (fun z => q z.symm)] at hv'
      refine Fld.other W' (F i' O' f' d' ty' v' hf' hv') (Or.inr ?_)
      have m1 := s2 _ (List.mem_of_getElem? hf)
      have m2 := s2 _ (List.mem_of_getElem? hf')
      refine slot_ne (a0 := a0) (C := C) (m2.1.imp (hw _) (hw _)) (m1.1.imp (hw _) (hw _)) (fun z => q ?_) m2.2 m1.2
      have g1 : (fs.map (·.2.1))[i]? = some f := by simp [hf]
      have g2 : (fs.map (·.2.1))[i']? = some f' := by simp [hf']
      have hi' : i' < fs.length := (List.getElem?_eq_some_iff.mp hf').1
      exact (List.getElem?_inj (by simpa using hi') s3).mp (g2.trans (by rw [g1]; exact congrArg some z))
  obtain ⟨t, o, st2, h⟩ := hr T' _ X' (by rw [e']; exact Rep.write hG W' hO hN) (fr_snoc hF)
  exact ⟨t, o, st _ st2, h⟩
theorem ix_in {c : Cell} {vs : List Value} {x : Int32} {i : Nat} (hs : c.slots.toList = vs) (hx : x.toInt = i) (hi : i < vs.length) : ¬ (x < 0 ∨ c.slots.size ≤ x.toNatClampNeg) ∧ x.toNatClampNeg = i := by
  have h1 : x.toNatClampNeg = i := by simp [Int32.toNatClampNeg, hx]
  subst hs
  refine ⟨fun q => ?_, h1⟩
  rcases q with q | q
  · rw [Int32.lt_iff_toInt_lt, hx] at q
    simp at q
    omega
  · rw [h1] at q
    simp at hi
    omega
theorem arr_get {c : Cell} {vs : List Value} {x : Int32} {i : Nat} (hs : c.slots.toList = vs) (h1 : x.toNatClampNeg = i) (hv : vs[i]? = some v) : c.slots[x.toNatClampNeg]? = some v := by
  subst hs; rw [h1]; simpa using hv
/-- what a load of an array's component pushes -/
theorem Walk.iaload (W : Walk tab sig l Z a0 n0 own nm bytes maxL ret R Q J) {x : Int32} (i : Nat) {vs : List Value} (hd : decode bytes pc = .ok (.iaload, 1)) (hO : G[j]? = some (.inr .int, vs)) (hi : x.toInt = i) (hv : vs[i]? = some v)
    (hr : J pc' Ls (v :: S) G k sl) (hp : pc + 1 = pc' := by rfl) : J pc Ls (.int x :: .ref (n0 + j) :: S) G k sl := by
  obtain ⟨p, e, s, m, args, below, meth, c, rfl, hx, hby, hml, hret, hlk, hnm, hZ, hown, hw, hS⟩ := W
  subst hp
  intro T locs X hG hF
  obtain ⟨cl, A, hs, -⟩ := hG.2.2.2 j _ hO
  obtain ⟨q1, q2⟩ := ix_in hs hi (List.getElem?_eq_some_iff.mp hv).1
  obtain ⟨t, o, st, h⟩ := hr T locs X hG hF
  exact ⟨t, o, X.iaload hx A.1 (State.isArrayOf_alike hZ.alike A.2.1) A.2.2 q1 (arr_get hs q2 hv) (g := mkF m pc Ls.toArray (.int x :: .ref (n0 + j) :: S)) rfl rfl (Jvm.hb hby hd) _ st, h⟩
theorem Walk.laload (W : Walk tab sig l Z a0 n0 own nm bytes maxL ret R Q J) {x : Int32} (i : Nat) {vs : List Value} (hd : decode bytes pc = .ok (.laload, 1)) (hO : G[j]? = some (.inr .long, vs)) (hi : x.toInt = i) (hv : vs[i]? = some v)
    (hr : J pc' Ls (v :: S) G k sl) (hp : pc + 1 = pc' := by rfl) : J pc Ls (.int x :: .ref (n0 + j) :: S) G k sl := by
  obtain ⟨p, e, s, m, args, below, meth, c, rfl, hx, hby, hml, hret, hlk, hnm, hZ, hown, hw, hS⟩ := W
  subst hp
  intro T locs X hG hF
  obtain ⟨cl, A, hs, -⟩ := hG.2.2.2 j _ hO
  obtain ⟨q1, q2⟩ := ix_in hs hi (List.getElem?_eq_some_iff.mp hv).1
  obtain ⟨t, o, st, h⟩ := hr T locs X hG hF
  exact ⟨t, o, X.laload hx A.1 (State.isArrayOf_alike hZ.alike A.2.1) A.2.2 q1 (arr_get hs q2 hv) (g := mkF m pc Ls.toArray (.int x :: .ref (n0 + j) :: S)) rfl rfl (Jvm.hb hby hd) _ st, h⟩
theorem Walk.baload (W : Walk tab sig l Z a0 n0 own nm bytes maxL ret R Q J) {x : Int32} (i : Nat) {vs : List Value} (hd : decode bytes pc = .ok (.baload, 1)) (hO : G[j]? = some (.inr .byte, vs)) (hi : x.toInt = i) (hv : vs[i]? = some v)
    (hr : J pc' Ls (v :: S) G k sl) (hp : pc + 1 = pc' := by rfl) : J pc Ls (.int x :: .ref (n0 + j) :: S) G k sl := by
  obtain ⟨p, e, s, m, args, below, meth, c, rfl, hx, hby, hml, hret, hlk, hnm, hZ, hown, hw, hS⟩ := W
  subst hp
  intro T locs X hG hF
  obtain ⟨cl, A, hs, -⟩ := hG.2.2.2 j _ hO
  obtain ⟨q1, q2⟩ := ix_in hs hi (List.getElem?_eq_some_iff.mp hv).1
  obtain ⟨t, o, st, h⟩ := hr T locs X hG hF
  exact ⟨t, o, X.baloadBytes hx A.1 (State.isArrayOf_alike hZ.alike A.2.1) A.2.2 q1 (arr_get hs q2 hv) (g := mkF m pc Ls.toArray (.int x :: .ref (n0 + j) :: S)) rfl rfl (Jvm.hb hby hd) _ st, h⟩
theorem Walk.aaload (W : Walk tab sig l Z a0 n0 own nm bytes maxL ret R Q J) {x : Int32} {ty : FieldType} (i : Nat) {vs : List Value} (hd : decode bytes pc = .ok (.aaload, 1)) (hO : G[j]? = some (.inr ty, vs)) (hty : ty.isReference = true) (hi : x.toInt = i) (hv : vs[i]? = some v)
    (hr : J pc' Ls (v :: S) G k sl) (hp : pc + 1 = pc' := by rfl) : J pc Ls (.int x :: .ref (n0 + j) :: S) G k sl := by
  obtain ⟨p, e, s, m, args, below, meth, c, rfl, hx, hby, hml, hret, hlk, hnm, hZ, hown, hw, hS⟩ := W
  subst hp
  intro T locs X hG hF
  obtain ⟨cl, A, hs, -⟩ := hG.2.2.2 j _ hO
  obtain ⟨q1, q2⟩ := ix_in hs hi (List.getElem?_eq_some_iff.mp hv).1
  obtain ⟨t, o, st, h⟩ := hr T locs X hG hF
  exact ⟨t, o, X.aaload hx A.1 (State.isArrayOf_alike hZ.alike A.2.1) hty A.2.2 q1 (arr_get hs q2 hv) (g := mkF m pc Ls.toArray (.int x :: .ref (n0 + j) :: S)) rfl rfl (Jvm.hb hby hd) _ st, h⟩
theorem Walk.arraylength (W : Walk tab sig l Z a0 n0 own nm bytes maxL ret R Q J) {ty : FieldType} {vs : List Value} (z : Int32) (hd : decode bytes pc = .ok (.arraylength, 1)) (hO : G[j]? = some (.inr ty, vs)) (hz : vs.length.toInt32 = z)
    (hr : J pc' Ls (.int z :: S) G k sl) (hp : pc + 1 = pc' := by rfl) : J pc Ls (.ref (n0 + j) :: S) G k sl := by
  obtain ⟨p, e, s, m, args, below, meth, c, rfl, hx, hby, hml, hret, hlk, hnm, hZ, hown, hw, hS⟩ := W
  subst hp hz
  intro T locs X hG hF
  obtain ⟨cl, A, hs, -⟩ := hG.2.2.2 j _ hO
  obtain ⟨t, o, st, h⟩ := hr T locs X hG hF
  have e : cl.slots.size.toInt32 = vs.length.toInt32 := by rw [← hs]; simp
  exact ⟨t, o, X.arraylength hx A.1 (State.isArrayOf_alike hZ.alike A.2.1) (g := mkF m pc Ls.toArray (.ref (n0 + j) :: S)) rfl rfl (Jvm.hb hby hd) _ (by rw [e]; exact st), h⟩
theorem ObjAt.set {ty : FieldType} {vs : List Value} {x : Int32} {i : Nat} (W : Wr h h' a x.toNatClampNeg v) (F : ObjAt sig Z h a (.inr ty, vs)) (hi : x.toNatClampNeg = i) (hf : fits ty v = true) : ObjAt sig Z h' a (.inr ty, vs.set i v) := by
  obtain ⟨c, A, hs, h1, h2, h3⟩ := F
  subst hi hs
  refine ⟨_, A.same W, by simp [Cell.setSlot], by simpa using h1, fun u hu => ?_, h3⟩
  rcases List.mem_or_eq_of_mem_set hu with q | q
  · exact h2 u q
  · rw [q]; exact hf
theorem Walk.iastore (W : Walk tab sig l Z a0 n0 own nm bytes maxL ret R Q J) {x y : Int32} (i : Nat) {vs : List Value} (hd : decode bytes pc = .ok (.iastore, 1)) (hO : G[j]? = some (.inr .int, vs)) (hi : x.toInt = i) (hl : i < vs.length)
    (hr : J pc' Ls S (G.set j (.inr .int, vs.set i (.int y))) k sl) (hp : pc + 1 = pc' := by rfl) : J pc Ls (.int y :: .int x :: .ref (n0 + j) :: S) G k sl := by
  obtain ⟨p, e, s, m, args, below, meth, c, rfl, hx, hby, hml, hret, hlk, hnm, hZ, hown, hw, hS⟩ := W
  subst hp
  intro T locs X hG hF
  have F := hG.2.2.2 j _ hO
  obtain ⟨cl, A, hs, -⟩ := F
  obtain ⟨q1, q2⟩ := ix_in hs hi hl
  obtain ⟨T', h', X', e', W', st⟩ := stI X hx hZ rfl A q1 (g := mkF m pc Ls.toArray (.int y :: .int x :: .ref (n0 + j) :: S)) rfl rfl (Jvm.hb hby hd)
  obtain ⟨t, o, st2, h⟩ := hr T' _ X' (by rw [e']; exact Rep.write hG W' hO (ObjAt.set W' (hG.2.2.2 j _ hO) q2 rfl)) (fr_snoc hF)
  exact ⟨t, o, st _ st2, h⟩
theorem Walk.lastore (W : Walk tab sig l Z a0 n0 own nm bytes maxL ret R Q J) {x : Int32} {y : Int64} (i : Nat) {vs : List Value} (hd : decode bytes pc = .ok (.lastore, 1)) (hO : G[j]? = some (.inr .long, vs)) (hi : x.toInt = i) (hl : i < vs.length)
    (hr : J pc' Ls S (G.set j (.inr .long, vs.set i (.long y))) k sl) (hp : pc + 1 = pc' := by rfl) : J pc Ls (.long y :: .int x :: .ref (n0 + j) :: S) G k sl := by
  obtain ⟨p, e, s, m, args, below, meth, c, rfl, hx, hby, hml, hret, hlk, hnm, hZ, hown, hw, hS⟩ := W
  subst hp
  intro T locs X hG hF
  have F := hG.2.2.2 j _ hO
  obtain ⟨cl, A, hs, -⟩ := F
  obtain ⟨q1, q2⟩ := ix_in hs hi hl
  obtain ⟨T', h', X', e', W', st⟩ := stJ X hx hZ rfl A q1 (g := mkF m pc Ls.toArray (.long y :: .int x :: .ref (n0 + j) :: S)) rfl rfl (Jvm.hb hby hd)
  obtain ⟨t, o, st2, h⟩ := hr T' _ X' (by rw [e']; exact Rep.write hG W' hO (ObjAt.set W' (hG.2.2.2 j _ hO) q2 rfl)) (fr_snoc hF)
  exact ⟨t, o, st _ st2, h⟩
theorem Walk.bastore (W : Walk tab sig l Z a0 n0 own nm bytes maxL ret R Q J) {x y : Int32} (i : Nat) {vs : List Value} (hd : decode bytes pc = .ok (.bastore, 1)) (hO : G[j]? = some (.inr .byte, vs)) (hi : x.toInt = i) (hl : i < vs.length)
    (hr : J pc' Ls S (G.set j (.inr .byte, vs.set i (.int y.toInt8.toInt32))) k sl) (hp : pc + 1 = pc' := by rfl) : J pc Ls (.int y :: .int x :: .ref (n0 + j) :: S) G k sl := by
  obtain ⟨p, e, s, m, args, below, meth, c, rfl, hx, hby, hml, hret, hlk, hnm, hZ, hown, hw, hS⟩ := W
  subst hp
  intro T locs X hG hF
  have F := hG.2.2.2 j _ hO
  obtain ⟨cl, A, hs, -⟩ := F
  obtain ⟨q1, q2⟩ := ix_in hs hi hl
  obtain ⟨T', h', X', e', W', st⟩ := stB X hx hZ rfl A q1 (g := mkF m pc Ls.toArray (.int y :: .int x :: .ref (n0 + j) :: S)) rfl rfl (Jvm.hb hby hd)
  obtain ⟨t, o, st2, h⟩ := hr T' _ X' (by rw [e']; exact Rep.write hG W' hO (ObjAt.set (v := .int (nar .byte y)) W' (hG.2.2.2 j _ hO) q2 (fits_nar_byte y))) (fr_snoc hF)
  exact ⟨t, o, st _ st2, h⟩
theorem Walk.new (W : Walk tab sig l Z a0 n0 own nm bytes maxL ret R Q J) {idx n : Nat} (ci : Nat) {C : String} {fs : List Fd} {vs : List Value} (hd : decode bytes pc = .ok (.new idx, 3)) (hc : sig[ci]? = some (C, n, fs)) (w1 : Jvm.Cond.classLink own idx C ∈ tab) (w2 : Jvm.Cond.initialized C ∈ tab)
    (hvs : fs.map (fun f => defaultValue f.2.2.2) = vs) (hk : k + 1 ≤ R.cells) (hsl : sl + n ≤ R.slots) (hr : J pc' Ls (.ref (n0 + G.length) :: S) (G ++ [(.inl ci, vs)]) (k + 1) (sl + n)) (hp : pc + 3 = pc' := by rfl) : J pc Ls S G k sl := by
  obtain ⟨p, e, s, m, args, below, meth, c, rfl, hx, hby, hml, hret, hlk, hnm, hZ, hown, hw, hS⟩ := W
  subst hp hvs
  intro T locs X hG hF
  obtain ⟨s1, s2, s3⟩ := hS ci C n fs hc
  have w1' := hw _ w1; have w2' := hw _ w2; have wi := hw _ s1
  obtain ⟨vm', cC, kC, h1, h2, h3, h4, X', st⟩ := X.newCold hx hown (mv hZ w1') (mv hZ wi) (mv hZ w2') (g := mkF m pc Ls.toArray S) rfl (Jvm.hb hby hd) hk hsl
  rw [hZ.alike.findClass] at h1
  obtain ⟨kZ, z1, -⟩ := Vm.findClass_spec h1
  obtain ⟨k', z2, z3⟩ := hZ.alike.2.2 _ _ z1
  cases h2.symm.trans z2
  have ei : kC.instanceTypes = kZ.instanceTypes := by rw [z3]
  have hN : (T.heap.push { cls := cC, slots := kC.instanceTypes.map defaultValue, vm := .none })[T.heap.size]? = some { cls := cC, slots := kC.instanceTypes.map defaultValue, vm := .none } := by simp
  have hE : Ext T.heap (T.heap.push { cls := cC, slots := kC.instanceTypes.map defaultValue, vm := .none }) := ⟨by simp, fun a c h => by rw [Array.getElem?_push_lt (Array.getElem?_eq_some_iff.mp h).1]; exact (Array.getElem?_eq_getElem _).symm.trans h⟩
  have hO : ObjAt sig Z (T.heap.push { cls := cC, slots := kC.instanceTypes.map defaultValue, vm := .none }) T.heap.size (.inl ci, fs.map (fun f => defaultValue f.2.2.2)) := by
    refine ⟨C, n, fs, hc, ⟨_, kZ, hN, h1, z1, rfl, fun _ => by simp [ei]⟩, by simp, fun i O f d ty v hf hv => ?_⟩
    have hv' : v = defaultValue ty := by simp [hf] at hv; exact hv.symm
    subst hv'
    obtain ⟨q1, q2⟩ := s2 _ (List.mem_of_getElem? hf)
    obtain ⟨c1, k1, cf, kf, i, f, a1, a2, a3, a4, a5, a6, -⟩ := Laid.spec (a0 := a0) (q1.imp (hw _) (hw _))
    cases h1.symm.trans a1
    cases z1.symm.trans a2
    exact ⟨_, cf, kf, i, f, hN, a3, a4, by simp, rfl, a5, by simp [ei, a6, (State.fieldFound?_type a3 q2).2]⟩
  have hsz : T.heap.size = n0 + G.length := hG.2.2.1
  have hR := Rep.push hG hE (by simp) hO
  obtain ⟨t, o, st2, h⟩ := hr _ locs X' hR hF
  rw [hsz] at st
  exact ⟨t, o, st _ st2, h⟩
theorem Walk.newarray (W : Walk tab sig l Z a0 n0 own nm bytes maxL ret R Q J) {aty : ArrayType} {x : Int32} (N : Nat) {vs : List Value} (hd : decode bytes pc = .ok (.newarray aty, 2)) (w1 : Jvm.Cond.arrayClass (newarray.typeOf aty) ∈ tab)
    (hN : x.toInt = N) (hvs : List.replicate N (defaultValue (newarray.typeOf aty)) = vs) (hb8 : N * 8 ≤ 536870912) (hk : k + 1 ≤ R.cells) (hsl : sl + N ≤ R.slots)
    (hr : J pc' Ls (.ref (n0 + G.length) :: S) (G ++ [(.inr (newarray.typeOf aty), vs)]) (k + 1) (sl + N)) (hp : pc + 2 = pc' := by rfl) : J pc Ls (.int x :: S) G k sl := by
  obtain ⟨p, e, s, m, args, below, meth, c, rfl, hx, hby, hml, hret, hlk, hnm, hZ, hown, hw, hS⟩ := W
  subst hp hvs
  intro T locs X hG hF
  have hcl : x.toNatClampNeg = N := by simp [Int32.toNatClampNeg, hN]
  have hcb : componentBytes (newarray.typeOf aty) ≤ 8 := by cases aty <;> decide
  obtain ⟨cA, kA, comp, h1, h2, h3, X', st⟩ := X.newarrayPrim hx (mvA hZ (hw _ w1)) (g := mkF m pc Ls.toArray (.int x :: S)) rfl (Jvm.hb hby hd) rfl (by rw [Int32.lt_iff_toInt_lt, hN]; simp <;> omega) (Nat.le_trans (Nat.mul_le_mul (Nat.le_of_eq hcl) hcb) hb8) hk (by rw [hcl]; exact hsl)
  rw [hZ.alike.findClass] at h1
  obtain ⟨kZ, z1, -⟩ := Vm.findClass_spec h1
  obtain ⟨k', z2, z3⟩ := hZ.alike.2.2 _ _ z1
  cases h2.symm.trans z2
  rw [hcl] at X' st
  have hE : Ext T.heap (T.heap.push { cls := cA, slots := Array.replicate N (defaultValue (newarray.typeOf aty)), vm := .none }) := ⟨by simp, fun a c h => by rw [Array.getElem?_push_lt (Array.getElem?_eq_some_iff.mp h).1]; exact (Array.getElem?_eq_getElem _).symm.trans h⟩
  have hO : ObjAt sig Z (T.heap.push { cls := cA, slots := Array.replicate N (defaultValue (newarray.typeOf aty)), vm := .none }) T.heap.size (.inr (newarray.typeOf aty), List.replicate N (defaultValue (newarray.typeOf aty))) := by
    refine ⟨{ cls := cA, slots := Array.replicate N (defaultValue (newarray.typeOf aty)), vm := .none }, ⟨by simp, ⟨by simp, kZ, z1, comp, by rw [← h3, z3]⟩, by simp⟩, by simp, by simp; omega, fun v hv => ?_, h1⟩
    rw [List.eq_of_mem_replicate hv]
    cases aty <;> rfl
  have hsz : T.heap.size = n0 + G.length := hG.2.2.1
  obtain ⟨t, o, st2, h⟩ := hr _ locs X' (Rep.push hG hE (by simp) hO) hF
  rw [hsz] at st
  exact ⟨t, o, st _ st2, h⟩
theorem Walk.initObject (W : Walk tab sig l Z a0 n0 own nm bytes maxL ret R Q J) {idx : Nat} {a : Addr} (hd : decode bytes pc = .ok (.invokespecial idx, 3)) (w1 : Jvm.Cond.methodLink own idx Lib.objectInit ∈ tab) (w2 : Jvm.Cond.instanceMethod Lib.objectInit ∈ tab) (w3 : Jvm.Cond.code Lib.objectInit ⟨#[0xb1]⟩ 1 none ∈ tab)
    (hsz : Ls.length = maxL) (hf : Nat.ble 1 R.frames = true) (hl : Nat.ble ((S.map fun v => v.category).sum + 12) R.locals = true) (hr : J pc' Ls S G k sl) (hp : pc + 3 = pc' := by rfl) : J pc Ls (.ref a :: S) G k sl := by
  obtain ⟨p, e, s, m, args, below, meth, c, rfl, hx, hby, hml, hret, hlk, hnm, hZ, hown, hw, hS⟩ := W
  subst hp
  intro T locs X hG hF
  obtain ⟨T', X', e', st⟩ := initO X hx hZ hown (hw _ w1) (hw _ w2) (hw _ w3) rfl (g := mkF m pc Ls.toArray (.ref a :: S)) rfl (by rw [hml, ← hsz]; simp) rfl (Jvm.hb hby hd) (Nat.le_of_ble_eq_true hf) (W := (S.map fun v => v.category).sum) (by show 2 * 0 + _ ≤ _; omega) (Nat.le_of_ble_eq_true hl)
  obtain ⟨t, o, st2, h⟩ := hr T' locs X' (by rw [e']; exact hG) hF
  exact ⟨t, o, st _ st2, h⟩
theorem fitC_of {c : Cell} {ty : FieldType} {vs : List Value} (A : Arr Z h a c ty) (hs : c.slots.toList = vs) (hf : ∀ v ∈ vs, fits ty v = true) : FitC Z c := fun i v hv => by
  obtain ⟨-, k, hk, comp, hkind⟩ := A.2.1
  have hm : v ∈ vs := by
    rw [← hs]
    have hv' : c.slots.toList[i]? = some v := by simpa using hv
    exact List.mem_of_getElem? hv'
  have e : Z.slotType? c.cls .none i = some ty := by simp [State.slotType?, hk, hkind]
  simp [State.fitsSlot, e, hf v hm]
theorem Walk.clone (W : Walk tab sig l Z a0 n0 own nm bytes maxL ret R Q J) {idx N : Nat} {ty : FieldType} {vs : List Value} {ad : String} (hd : decode bytes pc = .ok (.invokevirtual idx, 3))
    (w1 : Jvm.Cond.methodLink own idx ⟨ad, "clone", "()Ljava/lang/Object;"⟩ ∈ tab) (w2 : Jvm.Cond.sameMethod ad "java/lang/Object" "clone" "()Ljava/lang/Object;" ∈ tab) (w3 : Jvm.Cond.native ⟨"java/lang/Object", "clone", "()Ljava/lang/Object;"⟩ ∈ tab) (w4 : Jvm.Cond.instanceMethod ⟨"java/lang/Object", "clone", "()Ljava/lang/Object;"⟩ ∈ tab)
    (w5 : Jvm.Cond.selects ad ⟨ad, "clone", "()Ljava/lang/Object;"⟩ ⟨"java/lang/Object", "clone", "()Ljava/lang/Object;"⟩ ∈ tab) (w6 : Jvm.Cond.castable ad "java/lang/Cloneable" ∈ tab)
    (hO : G[j]? = some (.inr ty, vs)) (had : "[" ++ ty.toString = ad) (hsz : Ls.length = maxL) (hf : Nat.ble 1 R.frames = true) (hl : Nat.ble ((S.map fun v => v.category).sum + 14) R.locals = true) (hN : vs.length = N) (hk : k + 1 ≤ R.cells) (hsl : sl + N ≤ R.slots)
    (hr : J pc' Ls (.ref (n0 + G.length) :: S) (G ++ [(.inr ty, vs)]) (k + 1) (sl + N)) (hp : pc + 3 = pc' := by rfl) : J pc Ls (.ref (n0 + j) :: S) G k sl := by
  obtain ⟨p, e, s, m, args, below, meth, c, rfl, hx, hby, hml, hret, hlk, hnm, hZ, hown, hw, hS⟩ := W
  subst hp had
  intro T locs X hG hF
  obtain ⟨cl, A, hs, hlt, hfits, hcls⟩ := hG.2.2.2 j _ hO
  obtain ⟨c1, cC, g1, g2, g3⟩ := Cond.castable_spec (hw _ w6)
  cases hcls.symm.trans g1
  have hal : Z.vm.Alike T.vm := hZ.alike.trans X.warmed.alike
  have hsz' : cl.slots.size = N := by rw [← hN, ← hs]; simp
  have hFC := fitC_of A hs hfits
  obtain ⟨vm', X', st⟩ := X.cloneArray hx hown (mv hZ (hw _ w1)) (mv hZ (hw _ w2)) (mv hZ (hw _ w3)) (mv hZ (hw _ w4)) (mv hZ (hw _ w5)) (a := n0 + j) A.1 A.2.1.1 A.2.2 (by rw [hZ.alike.findClass]; exact hcls) (by rw [hZ.alike.findClass]; exact g2) (by rw [hZ.alike.assignable]; exact g3)
    (fun i v hv => by have q := hFC i v hv; rw [← State.fitsSlot_setVm hal] at q; exact q) (g := mkF m pc Ls.toArray (.ref (n0 + j) :: S)) rfl (by rw [hml, ← hsz]; simp) rfl (Jvm.hb hby hd) (Nat.le_of_ble_eq_true hf) (by show 2 * 0 + _ + 14 ≤ _; have := Nat.le_of_ble_eq_true hl; omega) hk (by rw [hsz']; exact hsl)
    (by obtain ⟨-, k2, hk2, comp, hkind⟩ := A.2.1; rw [hZ.alike.clonesLoader]; exact Vm.clonesLoader_of_array hk2 hkind)
  rw [hsz'] at X'
  have hE : Ext T.heap (T.heap.push (cloneOf cl)) := ext_of fun a q => Array.getElem?_push_lt q |>.trans (Array.getElem?_eq_getElem q).symm
  have hO' : ObjAt sig Z (T.heap.push (cloneOf cl)) T.heap.size (.inr ty, vs) := ⟨cloneOf cl, ⟨by simp, ⟨fun _ z => (by cases z), A.2.1.2⟩, fun z => (by cases z)⟩, hs, hlt, hfits, hcls⟩
  have hsz : T.heap.size = n0 + G.length := hG.2.2.1
  obtain ⟨t, o, st2, h⟩ := hr _ locs X' (Rep.push hG hE (by simp) hO') hF
  rw [hsz] at st
  exact ⟨t, o, st _ st2, h⟩
theorem Walk.castArr (W : Walk tab sig l Z a0 n0 own nm bytes maxL ret R Q J) {idx : Nat} {ty : FieldType} {vs : List Value} {K : String} (hd : decode bytes pc = .ok (.checkcast idx, 3)) (w1 : Jvm.Cond.classLink own idx K ∈ tab) (hO : G[j]? = some (.inr ty, vs)) (hK : "[" ++ ty.toString = K)
    (hr : J pc' Ls (.ref (n0 + j) :: S) G k sl) (hp : pc + 3 = pc' := by rfl) : J pc Ls (.ref (n0 + j) :: S) G k sl := by
  obtain ⟨p, e, s, m, args, below, meth, c, rfl, hx, hby, hml, hret, hlk, hnm, hZ, hown, hw, hS⟩ := W
  subst hp hK
  intro T locs X hG hF
  obtain ⟨cl, A, hs, hlt, hfits, hcls⟩ := hG.2.2.2 j _ hO
  obtain ⟨T', X', e', st⟩ := castY X hx hZ hown (hw _ w1) rfl (a := n0 + j) ⟨cl, cl.cls, A.1, hcls, by simp [A.plain, Vm.assignable_self]⟩ (g := mkF m pc Ls.toArray (.ref (n0 + j) :: S)) rfl rfl (Jvm.hb hby hd)
  obtain ⟨t, o, st2, h⟩ := hr T' locs X' (by rw [e']; exact hG) hF
  exact ⟨t, o, st _ st2, h⟩
theorem Walk.castObj (W : Walk tab sig l Z a0 n0 own nm bytes maxL ret R Q J) {idx ci n : Nat} {C K : String} {fs : List Fd} {vs : List Value} (hd : decode bytes pc = .ok (.checkcast idx, 3)) (w1 : Jvm.Cond.classLink own idx K ∈ tab) (hO : G[j]? = some (.inl ci, vs)) (hc : sig[ci]? = some (C, n, fs)) (w2 : Jvm.Cond.castable C K ∈ tab)
    (hr : J pc' Ls (.ref (n0 + j) :: S) G k sl) (hp : pc + 3 = pc' := by rfl) : J pc Ls (.ref (n0 + j) :: S) G k sl := by
  obtain ⟨p, e, s, m, args, below, meth, c, rfl, hx, hby, hml, hret, hlk, hnm, hZ, hown, hw, hS⟩ := W
  subst hp
  intro T locs X hG hF
  obtain ⟨C', n', fs', e1, E, hlen, F⟩ := hG.2.2.2 j _ hO
  cases hc.symm.trans e1
  obtain ⟨T', X', e', st⟩ := castY X hx hZ hown (hw _ w1) rfl (Ins.of_exa E (hw _ w2)) (g := mkF m pc Ls.toArray (.ref (n0 + j) :: S)) rfl rfl (Jvm.hb hby hd)
  obtain ⟨t, o, st2, h⟩ := hr T' locs X' (by rw [e']; exact hG) hF
  exact ⟨t, o, st _ st2, h⟩
/-! ## calls by their contracts -/
variable {y z : MethodName} {bytes' : ByteArray} {maxL' : Nat} {ret' : Option FieldType} {R' : Room} {as St : List Value} {Q' : Post}
theorem Walk.callStatic (W : Walk tab sig l Z a0 n0 own nm bytes maxL ret R Q J) {idx : Nat} (hd : decode bytes pc = .ok (.invokestatic idx, 3)) (w1 : Jvm.Cond.methodLink own idx y ∈ tab) (w2 : Jvm.Cond.static y ∈ tab) (w3 : Jvm.Cond.initialized y.cls ∈ tab) (w4 : Jvm.Cond.code y bytes' maxL' ret' ∈ tab)
    (hM : Meth sig l Z n0 y bytes' maxL' ret' R' as G Q') (hlen : ∀ sg, parseMethodDescriptor y.desc = some sg → as.length = sg.parameters.length) (hSt : St = as.reverse ++ S) (hsz : Ls.length = maxL) (hf : Nat.ble (R'.frames + 1) R.frames = true) (hl : Nat.ble ((S.map fun v => v.category).sum + (maxL' + 11) + R'.locals) R.locals = true)
    (hk : k + R'.cells ≤ R.cells) (hsl : sl + R'.slots ≤ R.slots) (hr : ∀ v G', Q' v G' → J pc' Ls (v.toList ++ S) G' (k + R'.cells) (sl + R'.slots)) (hp : pc + 3 = pc' := by rfl)
    (hy : y.cls ≠ "java/lang/invoke/MethodHandle" ∧ y.cls ≠ "java/lang/invoke/VarHandle" := by decide) : J pc Ls St G k sl := by
  obtain ⟨p, e, s, m, args, below, meth, c, rfl, hx, hby, hml, hret, hlk, hnm, hZ, hown, hw, hS⟩ := W
  subst hp hSt
  intro T locs X hG hF
  obtain ⟨v, vm₁, ⟨T', L', k', n'⟩, -, X', ⟨Lc, ⟨G', hG', hQ', hF'⟩, l1, y1, z1⟩, st⟩ := Jvm.LawKit.callS X hx (y := y) hown (mvT hZ (hw _ w1)) (mvT hZ (hw _ w2)) (mvT hZ (hw _ w3)) (mvT hZ (hw _ w4)) hy
    (backOf (W := (S.map fun v => v.category).sum) (Q := fun v h L => ∃ G', Rep sig Z n0 h G' ∧ Q' v G' ∧ Fr n0 L) (hM [] T.heap hG) hZ (hw _ w4) (hw _ w3) (Nat.le_of_ble_eq_true hf) (Nat.le_of_ble_eq_true hl))
    (g := mkF m pc Ls.toArray (as.reverse ++ S)) rfl (by rw [hml, ← hsz]; simp) (argsL := as) (rest := S) hlen rfl (by show 2 * 0 + _ ≤ _; omega) (Jvm.hb hby hd) (fun _ _ => ⟨rfl, rfl, hk, hsl⟩)
  dsimp only [Pt.U, Pt.locs, Pt.cells, Pt.slots] at X' l1 y1 z1 st hG'
  subst l1 y1 z1
  obtain ⟨t, o, st2, h⟩ := hr v G' hQ' T' _ X' hG' (Fr.app hF hF')
  exact ⟨t, o, st _ st2, h⟩
theorem Walk.callInit (W : Walk tab sig l Z a0 n0 own nm bytes maxL ret R Q J) {idx : Nat} {a : Addr} (hd : decode bytes pc = .ok (.invokespecial idx, 3)) (w1 : Jvm.Cond.methodLink own idx y ∈ tab) (w2 : Jvm.Cond.instanceMethod y ∈ tab) (w3 : Jvm.Cond.initialized y.cls ∈ tab) (w4 : Jvm.Cond.code y bytes' maxL' none ∈ tab)
    (hM : Meth sig l Z n0 y bytes' maxL' none R' (.ref a :: as) G Q') (hlen : ∀ sg, parseMethodDescriptor y.desc = some sg → as.length = sg.parameters.length) (hSt : St = as.reverse ++ .ref a :: S) (hsz : Ls.length = maxL) (hf : Nat.ble (R'.frames + 1) R.frames = true) (hl : Nat.ble ((S.map fun v => v.category).sum + (maxL' + 11) + R'.locals) R.locals = true)
    (hk : k + R'.cells ≤ R.cells) (hsl : sl + R'.slots ≤ R.slots) (hr : ∀ v G', Q' v G' → J pc' Ls (v.toList ++ S) G' (k + R'.cells) (sl + R'.slots)) (hp : pc + 3 = pc' := by rfl) (hy1 : y.name = "<init>" := by rfl)
    (hy : y.cls ≠ "java/lang/invoke/MethodHandle" ∧ y.cls ≠ "java/lang/invoke/VarHandle" := by decide) : J pc Ls St G k sl := by
  obtain ⟨p, e, s, m, args, below, meth, c, rfl, hx, hby, hml, hret, hlk, hnm, hZ, hown, hw, hS⟩ := W
  subst hp hSt
  intro T locs X hG hF
  obtain ⟨v, vm₁, ⟨T', L', k', n'⟩, -, X', ⟨Lc, ⟨G', hG', hQ', hF'⟩, l1, y1, z1⟩, st⟩ := X.specialBack hx (y := y) hy1 hown (mvT hZ (hw _ w1)) (mvT hZ (hw _ w2)) (mvT hZ (hw _ w4)) hy
    (backOf (W := (S.map fun v => v.category).sum) (Q := fun v h L => ∃ G', Rep sig Z n0 h G' ∧ Q' v G' ∧ Fr n0 L) (hM [] T.heap hG) hZ (hw _ w4) (hw _ w3) (Nat.le_of_ble_eq_true hf) (Nat.le_of_ble_eq_true hl))
    (g := mkF m pc Ls.toArray (as.reverse ++ .ref a :: S)) rfl (by rw [hml, ← hsz]; simp) (Steps.refl _) (a := a) (argsL := as) (rest := S) hlen rfl (by show 2 * 0 + _ ≤ _; omega) (Jvm.hb hby hd) (fun _ _ => ⟨rfl, rfl, hk, hsl⟩)
  dsimp only [Pt.U, Pt.locs, Pt.cells, Pt.slots] at X' l1 y1 z1 st hG'
  subst l1 y1 z1
  obtain ⟨t, o, st2, h⟩ := hr v G' hQ' T' _ X' hG' (Fr.app hF hF')
  exact ⟨t, o, st.trans st2, h⟩
theorem Walk.callVirtual (W : Walk tab sig l Z a0 n0 own nm bytes maxL ret R Q J) {idx ci n : Nat} {C : String} {fs : List Fd} {vs : List Value} (hd : decode bytes pc = .ok (.invokevirtual idx, 3)) (w1 : Jvm.Cond.methodLink own idx y ∈ tab) (w2 : Jvm.Cond.declares y ∈ tab) (w3 : Jvm.Cond.selects C y y ∈ tab) (w4 : Jvm.Cond.instanceMethod y ∈ tab) (w5 : Jvm.Cond.initialized y.cls ∈ tab) (w6 : Jvm.Cond.code y bytes' maxL' ret' ∈ tab)
    (hO : G[j]? = some (.inl ci, vs)) (hc : sig[ci]? = some (C, n, fs))
    (hM : Meth sig l Z n0 y bytes' maxL' ret' R' (.ref (n0 + j) :: as) G Q') (hlen : ∀ sg, parseMethodDescriptor y.desc = some sg → as.length = sg.parameters.length) (hSt : St = as.reverse ++ .ref (n0 + j) :: S) (hsz : Ls.length = maxL) (hf : Nat.ble (R'.frames + 1) R.frames = true) (hl : Nat.ble ((S.map fun v => v.category).sum + (maxL' + 11) + R'.locals) R.locals = true)
    (hk : k + R'.cells ≤ R.cells) (hsl : sl + R'.slots ≤ R.slots) (hr : ∀ v G', Q' v G' → J pc' Ls (v.toList ++ S) G' (k + R'.cells) (sl + R'.slots)) (hp : pc + 3 = pc' := by rfl)
    (hy : y.cls ≠ "java/lang/invoke/MethodHandle" ∧ y.cls ≠ "java/lang/invoke/VarHandle" := by decide) : J pc Ls St G k sl := by
  obtain ⟨p, e, s, m, args, below, meth, c, rfl, hx, hby, hml, hret, hlk, hnm, hZ, hown, hw, hS⟩ := W
  subst hp hSt
  intro T locs X hG hF
  obtain ⟨C', n', fs', e1, E, hlen', F⟩ := hG.2.2.2 j _ hO
  cases hc.symm.trans e1
  obtain ⟨cq, kq, qa, qb, qc⟩ := isOf hZ rfl E
  obtain ⟨v, vm₁, ⟨T', L', k', n'⟩, -, X', ⟨Lc, ⟨G', hG', hQ', hF'⟩, l1, y1, z1⟩, st⟩ := X.virtualBack hx (y := y) (z := y) hown (mvT hZ (hw _ w1)) (mvT hZ (hw _ w2)) (notFace_of_selects (args := #[]) (mvT hZ (hw _ w3))) (mvT hZ (hw _ w3)) (mvT hZ (hw _ w4)) hy
    (backOf (W := (S.map fun v => v.category).sum) (Q := fun v h L => ∃ G', Rep sig Z n0 h G' ∧ Q' v G' ∧ Fr n0 L) (hM [] T.heap hG) hZ (hw _ w6) (hw _ w5) (Nat.le_of_ble_eq_true hf) (Nat.le_of_ble_eq_true hl)) qa qc
    (g := mkF m pc Ls.toArray (as.reverse ++ .ref (n0 + j) :: S)) rfl (by rw [hml, ← hsz]; simp) (Steps.refl _) (argsL := as) (rest := S) hlen rfl (by show 2 * 0 + _ ≤ _; omega) (Jvm.hb hby hd) (fun _ _ => ⟨rfl, rfl, hk, hsl⟩)
  dsimp only [Pt.U, Pt.locs, Pt.cells, Pt.slots] at X' l1 y1 z1 st hG'
  subst l1 y1 z1
  obtain ⟨t, o, st2, h⟩ := hr v G' hQ' T' _ X' hG' (Fr.app hF hF')
  exact ⟨t, o, st.trans st2, h⟩
theorem Walk.callPrivate (W : Walk tab sig l Z a0 n0 own nm bytes maxL ret R Q J) {idx ci n : Nat} {fs : List Fd} {vs : List Value} (hd : decode bytes pc = .ok (.invokevirtual idx, 3)) (w1 : Jvm.Cond.methodLink own idx y ∈ tab) (w2 : Jvm.Cond.instanceMethod y ∈ tab) (w3 : Jvm.Cond.privateMethod y ∈ tab) (w5 : Jvm.Cond.initialized y.cls ∈ tab) (w6 : Jvm.Cond.code y bytes' maxL' ret' ∈ tab)
    (hO : G[j]? = some (.inl ci, vs)) (hc : sig[ci]? = some (y.cls, n, fs))
    (hM : Meth sig l Z n0 y bytes' maxL' ret' R' (.ref (n0 + j) :: as) G Q') (hlen : ∀ sg, parseMethodDescriptor y.desc = some sg → as.length = sg.parameters.length) (hSt : St = as.reverse ++ .ref (n0 + j) :: S) (hsz : Ls.length = maxL) (hf : Nat.ble (R'.frames + 1) R.frames = true) (hl : Nat.ble ((S.map fun v => v.category).sum + (maxL' + 11) + R'.locals) R.locals = true)
    (hk : k + R'.cells ≤ R.cells) (hsl : sl + R'.slots ≤ R.slots) (hr : ∀ v G', Q' v G' → J pc' Ls (v.toList ++ S) G' (k + R'.cells) (sl + R'.slots)) (hp : pc + 3 = pc' := by rfl)
    (hy : y.cls ≠ "java/lang/invoke/MethodHandle" ∧ y.cls ≠ "java/lang/invoke/VarHandle" := by decide) : J pc Ls St G k sl := by
  obtain ⟨p, e, s, m, args, below, meth, c, rfl, hx, hby, hml, hret, hlk, hnm, hZ, hown, hw, hS⟩ := W
  subst hp hSt
  intro T locs X hG hF
  obtain ⟨C', n', fs', e1, E, hlen', F⟩ := hG.2.2.2 j _ hO
  cases hc.symm.trans e1
  obtain ⟨cq, q1, q2⟩ := E.cell
  have hpv : s.PrivateAt y := Cond.privateMethod_at (mvP hZ (hw _ w3) (args := #[]))
  have hin : (Jvm.Cond.instanceMethod y).before args s = true := mvT hZ (hw _ w2)
  have wi : (Jvm.Cond.instantiable y.cls n).before args s = true := mvT hZ (hw _ (hS ci _ n fs hc).1)
  obtain ⟨cc, kc, i1, i2, i3, i4, -⟩ := Cond.instantiable_spec wi
  have i5 : kc.isInterface = false := by
    cases hq : kc.isInterface with
    | false => rfl
    | true => rw [hq] at i4; cases i4
  obtain ⟨v, vm₁, ⟨T', L', k', n'⟩, -, X', ⟨Lc, ⟨G', hG', hQ', hF'⟩, l1, y1, z1⟩, st⟩ := X.privateBack hx (y := y) hown (mvT hZ (hw _ w1)) hin (selects_self_of_private i1 i2 i5 hpv hin hy) hpv (mvT hZ (hw _ w6)) hy
    (backOf (W := (S.map fun v => v.category).sum) (Q := fun v h L => ∃ G', Rep sig Z n0 h G' ∧ Q' v G' ∧ Fr n0 L) (hM [] T.heap hG) hZ (hw _ w6) (hw _ w5) (Nat.le_of_ble_eq_true hf) (Nat.le_of_ble_eq_true hl))
    (g := mkF m pc Ls.toArray (as.reverse ++ .ref (n0 + j) :: S)) rfl (by rw [hml, ← hsz]; simp) (Steps.refl _) q1 q2 (argsL := as) (rest := S) hlen rfl (by show 2 * 0 + _ ≤ _; omega) (Jvm.hb hby hd) (fun _ _ => ⟨rfl, rfl, hk, hsl⟩)
  dsimp only [Pt.U, Pt.locs, Pt.cells, Pt.slots] at X' l1 y1 z1 st hG'
  subst l1 y1 z1
  obtain ⟨t, o, st2, h⟩ := hr v G' hQ' T' _ X' hG' (Fr.app hF hF')
  exact ⟨t, o, st.trans st2, h⟩
/-! ## returns -/
theorem Walk.retV {t : FieldType} (W : Walk tab sig l Z a0 n0 own nm bytes maxL (some t) R Q J) {i : Instr} (hd : decode bytes pc = .ok (i, 1)) (hn : narrow t v = v)
    (hi : (i = .ireturn ∧ (t = .int ∨ t = .boolean ∨ t = .byte ∨ t = .char ∨ t = .short) ∧ ∃ z, v = .int z) ∨ (i = .lreturn ∧ t = .long ∧ ∃ z, v = .long z) ∨ (i = .dreturn ∧ t = .double ∧ ∃ z, v = .double z) ∨ (i = .freturn ∧ t = .float ∧ ∃ z, v = .float z) ∨ (i = .areturn ∧ t.isReference = true ∧ v.isRef = true))
    (hk : k ≤ R.cells) (hsl : sl ≤ R.slots) (hq : Q (some v) G) : J pc Ls (v :: S) G k sl := by
  obtain ⟨p, e, s, m, args, below, meth, c, rfl, hx, hby, hml, hret, hlk, hnm, hZ, hown, hw, hS⟩ := W
  intro T locs X hG hF
  obtain ⟨fs, hr, hrun, hended, hW, hsame⟩ := X.leave (v := some v) (fun h => by rw [hret] at h; cases h) hlk
  exact ⟨_, _, retOut X hx hret hn hi (Jvm.hb hby hd) hr, hrun, hended, _, _, rfl, ⟨G, hG, hq, hF⟩, ⟨_, rfl⟩, hW, hsame.mono hk hsl⟩
theorem Walk.ireturn (W : Walk tab sig l Z a0 n0 own nm bytes maxL (some .int) R Q J) {z : Int32} (hd : decode bytes pc = .ok (.ireturn, 1)) (hk : k ≤ R.cells) (hsl : sl ≤ R.slots) (hq : Q (some (.int z)) G) : J pc Ls (.int z :: S) G k sl :=
  W.retV hd rfl (Or.inl ⟨rfl, Or.inl rfl, z, rfl⟩) hk hsl hq
theorem Walk.zreturn (W : Walk tab sig l Z a0 n0 own nm bytes maxL (some .boolean) R Q J) {z : Int32} (hd : decode bytes pc = .ok (.ireturn, 1)) (hz : z = 0 ∨ z = 1) (hk : k ≤ R.cells) (hsl : sl ≤ R.slots) (hq : Q (some (.int z)) G) : J pc Ls (.int z :: S) G k sl :=
  W.retV hd (by rcases hz with rfl | rfl <;> rfl) (Or.inl ⟨rfl, Or.inr (Or.inl rfl), z, rfl⟩) hk hsl hq
theorem Walk.lreturn (W : Walk tab sig l Z a0 n0 own nm bytes maxL (some .long) R Q J) {z : Int64} (hd : decode bytes pc = .ok (.lreturn, 1)) (hk : k ≤ R.cells) (hsl : sl ≤ R.slots) (hq : Q (some (.long z)) G) : J pc Ls (.long z :: S) G k sl :=
  W.retV hd rfl (Or.inr (Or.inl ⟨rfl, rfl, z, rfl⟩)) hk hsl hq
theorem Walk.areturn {t : FieldType} (W : Walk tab sig l Z a0 n0 own nm bytes maxL (some t) R Q J) (hd : decode bytes pc = .ok (.areturn, 1)) (ht : t.isReference = true) (hv : v.isRef = true) (hk : k ≤ R.cells) (hsl : sl ≤ R.slots) (hq : Q (some v) G) : J pc Ls (v :: S) G k sl :=
  W.retV hd (by rcases ref_cases hv with rfl | ⟨a, rfl⟩ <;> cases t <;> rfl) (Or.inr (Or.inr (Or.inr (Or.inr ⟨rfl, ht, hv⟩)))) hk hsl hq
theorem Walk.return_ (W : Walk tab sig l Z a0 n0 own nm bytes maxL none R Q J) (hd : decode bytes pc = .ok (.return_, 1)) (hk : k ≤ R.cells) (hsl : sl ≤ R.slots) (hq : Q none G) : J pc Ls [] G k sl := by
  obtain ⟨p, e, s, m, args, below, meth, c, rfl, hx, hby, hml, hret, hlk, hnm, hZ, hown, hw, hS⟩ := W
  intro T locs X hG hF
  obtain ⟨fs, hr, hrun, hended, hW, hsame⟩ := X.leave (v := none) (fun _ => rfl) hlk
  exact ⟨_, _, X.returnOut hx hret (Jvm.hb hby hd) hr, hrun, hended, _, _, rfl, ⟨G, hG, hq, hF⟩, ⟨_, rfl⟩, hW, hsame.mono hk hsl⟩
end Heap
end Jvm.OwnWP
namespace Jvm.Pilot.@@N@@
open Jvm Jvm.ClassFile Sem Op Lib Jvm.Free Jvm.Stand Jvm.LawKit Jvm.RoadKit Bundle Jvm.OwnWP Jvm.Pilot.@@N@@.Jvm.D
theorem pn_prog_66_method_17_code : plainFor (⟨"com/example/usher/usher/store/Encoder", "varLongBytes", "(J)I"⟩ : MethodName) = true := by first | exact plainFor_of_name (by first | (simp [plainName, overriddenIn]; done) | decide +kernel) | decide +kernel
theorem pn_method_2_code : plainFor (⟨"com/example/usher/usher/store/EncoderVarLongBytesPinLaw", "ref", "(J)I"⟩ : MethodName) = true := by first | exact plainFor_of_name (by first | (simp [plainName, overriddenIn]; done) | decide +kernel) | decide +kernel
theorem pn_code : plainFor x = true := by first | exact plainFor_of_name (by first | (simp [plainName, overriddenIn]; done) | decide +kernel) | decide +kernel
def sg : Sig := []
theorem sgOk : SigOk tables_1 sg := by
  intro ci C n fs h
  cases h
theorem pd0 : parseMethodDescriptor "(J)I" = some ⟨[.long], some .int⟩ := by decide +kernel
theorem d_prog_66_method_17_code_0 : decode prog_66_method_17_code 0 = .ok (.iconst 1, 1) := by decide +kernel
theorem d_prog_66_method_17_code_1 : decode prog_66_method_17_code 1 = .ok (.istore_n 2, 1) := by decide +kernel
theorem d_prog_66_method_17_code_2 : decode prog_66_method_17_code 2 = .ok (.lload_n 0, 1) := by decide +kernel
theorem d_prog_66_method_17_code_3 : decode prog_66_method_17_code 3 = .ok (.bipush 7, 2) := by decide +kernel
theorem d_prog_66_method_17_code_5 : decode prog_66_method_17_code 5 = .ok (.lushr, 1) := by decide +kernel
theorem d_prog_66_method_17_code_6 : decode prog_66_method_17_code 6 = .ok (.lstore_n 3, 1) := by decide +kernel
theorem d_prog_66_method_17_code_7 : decode prog_66_method_17_code 7 = .ok (.lload_n 3, 1) := by decide +kernel
theorem d_prog_66_method_17_code_8 : decode prog_66_method_17_code 8 = .ok (.lconst 0, 1) := by decide +kernel
theorem d_prog_66_method_17_code_9 : decode prog_66_method_17_code 9 = .ok (.lcmp, 1) := by decide +kernel
theorem d_prog_66_method_17_code_10 : decode prog_66_method_17_code 10 = .ok (.ifCond .eq 14, 3) := by decide +kernel
theorem d_prog_66_method_17_code_13 : decode prog_66_method_17_code 13 = .ok (.iinc 2 1, 3) := by decide +kernel
theorem d_prog_66_method_17_code_16 : decode prog_66_method_17_code 16 = .ok (.lload_n 3, 1) := by decide +kernel
theorem d_prog_66_method_17_code_17 : decode prog_66_method_17_code 17 = .ok (.bipush 7, 2) := by decide +kernel
theorem d_prog_66_method_17_code_19 : decode prog_66_method_17_code 19 = .ok (.lushr, 1) := by decide +kernel
theorem d_prog_66_method_17_code_20 : decode prog_66_method_17_code 20 = .ok (.lstore_n 3, 1) := by decide +kernel
theorem d_prog_66_method_17_code_21 : decode prog_66_method_17_code 21 = .ok (.goto (-14), 3) := by decide +kernel
theorem d_prog_66_method_17_code_24 : decode prog_66_method_17_code 24 = .ok (.iload_n 2, 1) := by decide +kernel
theorem d_prog_66_method_17_code_25 : decode prog_66_method_17_code 25 = .ok (.ireturn, 1) := by decide +kernel
theorem d_method_2_code_0 : decode method_2_code 0 = .ok (.lload_n 0, 1) := by decide +kernel
theorem d_method_2_code_1 : decode method_2_code 1 = .ok (.bipush 7, 2) := by decide +kernel
theorem d_method_2_code_3 : decode method_2_code 3 = .ok (.lushr, 1) := by decide +kernel
theorem d_method_2_code_4 : decode method_2_code 4 = .ok (.lconst 0, 1) := by decide +kernel
theorem d_method_2_code_5 : decode method_2_code 5 = .ok (.lcmp, 1) := by decide +kernel
theorem d_method_2_code_6 : decode method_2_code 6 = .ok (.ifCond .ne 5, 3) := by decide +kernel
theorem d_method_2_code_9 : decode method_2_code 9 = .ok (.iconst 1, 1) := by decide +kernel
theorem d_method_2_code_10 : decode method_2_code 10 = .ok (.ireturn, 1) := by decide +kernel
theorem d_method_2_code_11 : decode method_2_code 11 = .ok (.lload_n 0, 1) := by decide +kernel
theorem d_method_2_code_12 : decode method_2_code 12 = .ok (.bipush 14, 2) := by decide +kernel
theorem d_method_2_code_14 : decode method_2_code 14 = .ok (.lushr, 1) := by decide +kernel
theorem d_method_2_code_15 : decode method_2_code 15 = .ok (.lconst 0, 1) := by decide +kernel
theorem d_method_2_code_16 : decode method_2_code 16 = .ok (.lcmp, 1) := by decide +kernel
theorem d_method_2_code_17 : decode method_2_code 17 = .ok (.ifCond .ne 5, 3) := by decide +kernel
theorem d_method_2_code_20 : decode method_2_code 20 = .ok (.iconst 2, 1) := by decide +kernel
theorem d_method_2_code_21 : decode method_2_code 21 = .ok (.ireturn, 1) := by decide +kernel
theorem d_method_2_code_22 : decode method_2_code 22 = .ok (.lload_n 0, 1) := by decide +kernel
theorem d_method_2_code_23 : decode method_2_code 23 = .ok (.bipush 21, 2) := by decide +kernel
theorem d_method_2_code_25 : decode method_2_code 25 = .ok (.lushr, 1) := by decide +kernel
theorem d_method_2_code_26 : decode method_2_code 26 = .ok (.lconst 0, 1) := by decide +kernel
theorem d_method_2_code_27 : decode method_2_code 27 = .ok (.lcmp, 1) := by decide +kernel
theorem d_method_2_code_28 : decode method_2_code 28 = .ok (.ifCond .ne 5, 3) := by decide +kernel
theorem d_method_2_code_31 : decode method_2_code 31 = .ok (.iconst 3, 1) := by decide +kernel
theorem d_method_2_code_32 : decode method_2_code 32 = .ok (.ireturn, 1) := by decide +kernel
theorem d_method_2_code_33 : decode method_2_code 33 = .ok (.lload_n 0, 1) := by decide +kernel
theorem d_method_2_code_34 : decode method_2_code 34 = .ok (.bipush 28, 2) := by decide +kernel
theorem d_method_2_code_36 : decode method_2_code 36 = .ok (.lushr, 1) := by decide +kernel
theorem d_method_2_code_37 : decode method_2_code 37 = .ok (.lconst 0, 1) := by decide +kernel
theorem d_method_2_code_38 : decode method_2_code 38 = .ok (.lcmp, 1) := by decide +kernel
theorem d_method_2_code_39 : decode method_2_code 39 = .ok (.ifCond .ne 5, 3) := by decide +kernel
theorem d_method_2_code_42 : decode method_2_code 42 = .ok (.iconst 4, 1) := by decide +kernel
theorem d_method_2_code_43 : decode method_2_code 43 = .ok (.ireturn, 1) := by decide +kernel
theorem d_method_2_code_44 : decode method_2_code 44 = .ok (.lload_n 0, 1) := by decide +kernel
theorem d_method_2_code_45 : decode method_2_code 45 = .ok (.bipush 35, 2) := by decide +kernel
theorem d_method_2_code_47 : decode method_2_code 47 = .ok (.lushr, 1) := by decide +kernel
theorem d_method_2_code_48 : decode method_2_code 48 = .ok (.lconst 0, 1) := by decide +kernel
theorem d_method_2_code_49 : decode method_2_code 49 = .ok (.lcmp, 1) := by decide +kernel
theorem d_method_2_code_50 : decode method_2_code 50 = .ok (.ifCond .ne 5, 3) := by decide +kernel
theorem d_method_2_code_53 : decode method_2_code 53 = .ok (.iconst 5, 1) := by decide +kernel
theorem d_method_2_code_54 : decode method_2_code 54 = .ok (.ireturn, 1) := by decide +kernel
theorem d_method_2_code_55 : decode method_2_code 55 = .ok (.lload_n 0, 1) := by decide +kernel
theorem d_method_2_code_56 : decode method_2_code 56 = .ok (.bipush 42, 2) := by decide +kernel
theorem d_method_2_code_58 : decode method_2_code 58 = .ok (.lushr, 1) := by decide +kernel
theorem d_method_2_code_59 : decode method_2_code 59 = .ok (.lconst 0, 1) := by decide +kernel
theorem d_method_2_code_60 : decode method_2_code 60 = .ok (.lcmp, 1) := by decide +kernel
theorem d_method_2_code_61 : decode method_2_code 61 = .ok (.ifCond .ne 6, 3) := by decide +kernel
theorem d_method_2_code_64 : decode method_2_code 64 = .ok (.bipush 6, 2) := by decide +kernel
theorem d_method_2_code_66 : decode method_2_code 66 = .ok (.ireturn, 1) := by decide +kernel
theorem d_method_2_code_67 : decode method_2_code 67 = .ok (.lload_n 0, 1) := by decide +kernel
theorem d_method_2_code_68 : decode method_2_code 68 = .ok (.bipush 49, 2) := by decide +kernel
theorem d_method_2_code_70 : decode method_2_code 70 = .ok (.lushr, 1) := by decide +kernel
theorem d_method_2_code_71 : decode method_2_code 71 = .ok (.lconst 0, 1) := by decide +kernel
theorem d_method_2_code_72 : decode method_2_code 72 = .ok (.lcmp, 1) := by decide +kernel
theorem d_method_2_code_73 : decode method_2_code 73 = .ok (.ifCond .ne 6, 3) := by decide +kernel
theorem d_method_2_code_76 : decode method_2_code 76 = .ok (.bipush 7, 2) := by decide +kernel
theorem d_method_2_code_78 : decode method_2_code 78 = .ok (.ireturn, 1) := by decide +kernel
theorem d_method_2_code_79 : decode method_2_code 79 = .ok (.lload_n 0, 1) := by decide +kernel
theorem d_method_2_code_80 : decode method_2_code 80 = .ok (.bipush 56, 2) := by decide +kernel
theorem d_method_2_code_82 : decode method_2_code 82 = .ok (.lushr, 1) := by decide +kernel
theorem d_method_2_code_83 : decode method_2_code 83 = .ok (.lconst 0, 1) := by decide +kernel
theorem d_method_2_code_84 : decode method_2_code 84 = .ok (.lcmp, 1) := by decide +kernel
theorem d_method_2_code_85 : decode method_2_code 85 = .ok (.ifCond .ne 6, 3) := by decide +kernel
theorem d_method_2_code_88 : decode method_2_code 88 = .ok (.bipush 8, 2) := by decide +kernel
theorem d_method_2_code_90 : decode method_2_code 90 = .ok (.ireturn, 1) := by decide +kernel
theorem d_method_2_code_91 : decode method_2_code 91 = .ok (.lload_n 0, 1) := by decide +kernel
theorem d_method_2_code_92 : decode method_2_code 92 = .ok (.bipush 63, 2) := by decide +kernel
theorem d_method_2_code_94 : decode method_2_code 94 = .ok (.lushr, 1) := by decide +kernel
theorem d_method_2_code_95 : decode method_2_code 95 = .ok (.lconst 0, 1) := by decide +kernel
theorem d_method_2_code_96 : decode method_2_code 96 = .ok (.lcmp, 1) := by decide +kernel
theorem d_method_2_code_97 : decode method_2_code 97 = .ok (.ifCond .ne 6, 3) := by decide +kernel
theorem d_method_2_code_100 : decode method_2_code 100 = .ok (.bipush 9, 2) := by decide +kernel
theorem d_method_2_code_102 : decode method_2_code 102 = .ok (.ireturn, 1) := by decide +kernel
theorem d_method_2_code_103 : decode method_2_code 103 = .ok (.bipush 10, 2) := by decide +kernel
theorem d_method_2_code_105 : decode method_2_code 105 = .ok (.ireturn, 1) := by decide +kernel
theorem own_ush {x : Int64} {n : Int32} (k : Nat) (hs : (n.toInt64.toUInt64 &&& Int64.toUInt64 63).toNat % 64 = k) : (XT.ushrL x n).toUInt64.toNat = x.toUInt64.toNat / 2 ^ k := by
  unfold XT.ushrL
  rw [show ∀ u : UInt64, u.toInt64.toUInt64 = u from fun u => by simp, UInt64.toNat_shiftRight, Nat.shiftRight_eq_div_pow, hs]
theorem own_inj {x y : Int64} (h : x.toUInt64.toNat = y.toUInt64.toNat) : x = y := by
  have h1 : x.toUInt64 = y.toUInt64 := UInt64.toNat_inj.mp h
  have := congrArg UInt64.toInt64 h1
  simpa using this
theorem own_zero {x : Int64} (h : x.toUInt64.toNat = 0) : x = 0 := own_inj (h.trans (by decide))
def own_cnt : Nat → Int64 → Int32 → Int32
  | 0, _, n => n
  | k + 1, r, n => if r = 0 then n else own_cnt k (XT.ushrL r 7) (n + 1)
def own_ref (v : Int64) : Int32 := if XT.ushrL v 7 = 0 then 1 else if XT.ushrL v 14 = 0 then 2 else if XT.ushrL v 21 = 0 then 3 else if XT.ushrL v 28 = 0 then 4 else if XT.ushrL v 35 = 0 then 5 else if XT.ushrL v 42 = 0 then 6 else if XT.ushrL v 49 = 0 then 7 else if XT.ushrL v 56 = 0 then 8 else if XT.ushrL v 63 = 0 then 9 else 10
theorem own_sh {v : Int64} {a b : Int32} (ka kb : Nat) (ha : (a.toInt64.toUInt64 &&& Int64.toUInt64 63).toNat % 64 = ka) (hb : (b.toInt64.toUInt64 &&& Int64.toUInt64 63).toNat % 64 = kb) (hk : kb = ka + 7) : XT.ushrL (XT.ushrL v a) 7 = XT.ushrL v b := by
  apply own_inj
  rw [own_ush 7 (by decide), own_ush ka ha, own_ush kb hb, hk, Nat.div_div_eq_div_mul, Nat.pow_add]
theorem own_same (v : Int64) : own_cnt 9 (XT.ushrL v 7) 1 = own_ref v := by
  have e1 : XT.ushrL (XT.ushrL v 7) 7 = XT.ushrL v 14 := own_sh 7 14 (by decide) (by decide) (by decide)
  have e2 : XT.ushrL (XT.ushrL v 14) 7 = XT.ushrL v 21 := own_sh 14 21 (by decide) (by decide) (by decide)
  have e3 : XT.ushrL (XT.ushrL v 21) 7 = XT.ushrL v 28 := own_sh 21 28 (by decide) (by decide) (by decide)
  have e4 : XT.ushrL (XT.ushrL v 28) 7 = XT.ushrL v 35 := own_sh 28 35 (by decide) (by decide) (by decide)
  have e5 : XT.ushrL (XT.ushrL v 35) 7 = XT.ushrL v 42 := own_sh 35 42 (by decide) (by decide) (by decide)
  have e6 : XT.ushrL (XT.ushrL v 42) 7 = XT.ushrL v 49 := own_sh 42 49 (by decide) (by decide) (by decide)
  have e7 : XT.ushrL (XT.ushrL v 49) 7 = XT.ushrL v 56 := own_sh 49 56 (by decide) (by decide) (by decide)
  have e8 : XT.ushrL (XT.ushrL v 56) 7 = XT.ushrL v 63 := own_sh 56 63 (by decide) (by decide) (by decide)
  simp only [own_cnt, own_ref, e1, e2, e3, e4, e5, e6, e7, e8]
  rfl
set_option maxRecDepth 65536 in
set_option maxHeartbeats 4000000 in
theorem own_loop {l : Launch} {Z : State} {a0 : Array Value} {n0 : Nat} {nm : String} {Q : Post} {J : JT} (W : Walk tables_1 sg l Z a0 n0 "com/example/usher/usher/store/Encoder" nm prog_66_method_17_code 5 (some .int) ({ frames := 0, cells := 0, slots := 0, locals := 0 } : Room) Q J) (v : Int64) (G : Ghost) :
    ∀ (k : Nat) (r : Int64) (n : Int32), r.toUInt64.toNat < 2 ^ (7 * k) → Q (some (.int (own_cnt k r n))) G → J 7 [.val (.long v), .second, .val (.int n), .val (.long r), .second] [] G 0 0 := by
  intro k
  induction k with
  | zero =>
    intro r n hr hq
    have hz : r = 0 := own_zero (by omega)
    refine W.lloadN (pc' := 8) d_prog_66_method_17_code_7 rfl ?_
    refine W.lconst (pc' := 9) (0) d_prog_66_method_17_code_8 rfl ?_
    refine W.lcmp (pc' := 10) d_prog_66_method_17_code_9 ?_
    refine W.ifl_eq (pc' := 24) (pc2 := 13) d_prog_66_method_17_code_10 (fun _ => ?_) (fun hc => absurd (hz) hc)
    refine W.iloadN (pc' := 25) d_prog_66_method_17_code_24 rfl ?_
    refine W.ireturn d_prog_66_method_17_code_25 (by decide) (by decide) ?_
    exact hq
  | succ k ih =>
    intro r n hr hq
    refine W.lloadN (pc' := 8) d_prog_66_method_17_code_7 rfl ?_
    refine W.lconst (pc' := 9) (0) d_prog_66_method_17_code_8 rfl ?_
    refine W.lcmp (pc' := 10) d_prog_66_method_17_code_9 ?_
    refine W.ifl_eq (pc' := 24) (pc2 := 13) d_prog_66_method_17_code_10 (fun hc10 => ?_) (fun hc10 => ?_)
    · refine W.iloadN (pc' := 25) d_prog_66_method_17_code_24 rfl ?_
      refine W.ireturn d_prog_66_method_17_code_25 (by decide) (by decide) ?_
      simpa [own_cnt, hc10] using hq
    · refine W.iinc (pc' := 16) (1) d_prog_66_method_17_code_13 rfl rfl ?_
      simp only [List.length_cons, List.length_nil, Nat.reduceAdd, Nat.zero_add, List.cons_append, List.nil_append, List.set_cons_zero, List.set_cons_succ, Option.toList]
      refine W.lloadN (pc' := 17) d_prog_66_method_17_code_16 rfl ?_
      refine W.bipush (pc' := 19) (7) d_prog_66_method_17_code_17 rfl ?_
      refine W.lushr (pc' := 20) d_prog_66_method_17_code_19 ?_
      refine W.lstoreN (pc' := 21) (i' := 3) d_prog_66_method_17_code_20 rfl ?_
      simp only [List.length_cons, List.length_nil, Nat.reduceAdd, Nat.zero_add, List.cons_append, List.nil_append, List.set_cons_zero, List.set_cons_succ, Option.toList]
      refine W.goto (pc' := 7) d_prog_66_method_17_code_21 ?_
      refine ih _ _ ?_ ?_
      · rw [own_ush 7 (by decide)]
        have : 2 ^ (7 * (k + 1)) = 2 ^ (7 * k) * 2 ^ 7 := by rw [← Nat.pow_add]; rfl
        omega
      · simpa [own_cnt, hc10] using hq
set_option maxRecDepth 65536 in
set_option maxHeartbeats 4000000 in
theorem m_Encoder_varLongBytes_J {l : Launch} {Z : State} {a0 : Array Value} {n0 : Nat} (hw : ∀ d ∈ tables_1, d.before a0 Z = true) {v : Int64} {G : Ghost} :
    Meth sg l Z n0 (⟨"com/example/usher/usher/store/Encoder", "varLongBytes", "(J)I"⟩ : MethodName) prog_66_method_17_code 5 (some .int) ({ frames := 0, cells := 0, slots := 0, locals := 0 } : Room) [.long v] G (fun q G' => q = some (.int (own_ref v)) ∧ G' = G) := by
  refine Meth.of (a0 := a0) (tab := tables_1) (Ls := [.val (.long v), .second, .unset, .unset, .unset]) pn_prog_66_method_17_code hw sgOk (fun m => by first | rfl | (simp [entryFrame, mkF, argsToLocals, Value.category]; done)) ?_
  intro J W
  refine W.iconst (pc' := 1) (1) d_prog_66_method_17_code_0 rfl ?_
  refine W.istoreN (pc' := 2) (i' := 2) d_prog_66_method_17_code_1 rfl ?_
  simp only [List.length_cons, List.length_nil, Nat.reduceAdd, Nat.zero_add, List.cons_append, List.nil_append, List.set_cons_zero, List.set_cons_succ, Option.toList]
  refine W.lloadN (pc' := 3) d_prog_66_method_17_code_2 rfl ?_
  refine W.bipush (pc' := 5) (7) d_prog_66_method_17_code_3 rfl ?_
  refine W.lushr (pc' := 6) d_prog_66_method_17_code_5 ?_
  refine W.lstoreN (pc' := 7) (i' := 3) d_prog_66_method_17_code_6 rfl ?_
  simp only [List.length_cons, List.length_nil, Nat.reduceAdd, Nat.zero_add, List.cons_append, List.nil_append, List.set_cons_zero, List.set_cons_succ, Option.toList]
  refine own_loop W v G 9 _ _ ?_ ?_
  · rw [own_ush 7 (by decide)]
    have := v.toUInt64.toNat_lt
    omega
  · exact ⟨by rw [own_same], rfl⟩
set_option maxRecDepth 65536 in
set_option maxHeartbeats 4000000 in
theorem m_EncoderVarLongBytesPinLaw_ref_J {l : Launch} {Z : State} {a0 : Array Value} {n0 : Nat} (hw : ∀ d ∈ tables_1, d.before a0 Z = true) {v : Int64} {G : Ghost} :
    Meth sg l Z n0 (⟨"com/example/usher/usher/store/EncoderVarLongBytesPinLaw", "ref", "(J)I"⟩ : MethodName) method_2_code 2 (some .int) ({ frames := 0, cells := 0, slots := 0, locals := 0 } : Room) [.long v] G (fun q G' => q = some (.int (own_ref v)) ∧ G' = G) := by
  refine Meth.of (a0 := a0) (tab := tables_1) (Ls := [.val (.long v), .second]) pn_method_2_code hw sgOk (fun m => by first | rfl | (simp [entryFrame, mkF, argsToLocals, Value.category]; done)) ?_
  intro J W
  refine W.lloadN (pc' := 1) d_method_2_code_0 rfl ?_
  refine W.bipush (pc' := 3) (7) d_method_2_code_1 rfl ?_
  refine W.lushr (pc' := 4) d_method_2_code_3 ?_
  refine W.lconst (pc' := 5) (0) d_method_2_code_4 rfl ?_
  refine W.lcmp (pc' := 6) d_method_2_code_5 ?_
  refine W.ifl_ne (pc' := 11) (pc2 := 9) d_method_2_code_6 (fun hc6 => ?_) (fun hc6 => ?_)
  · refine W.iconst (pc' := 10) (1) d_method_2_code_9 rfl ?_
    refine W.ireturn d_method_2_code_10 (by decide) (by decide) ?_
    exact ⟨by simp [own_ref, *], rfl⟩
  · refine W.lloadN (pc' := 12) d_method_2_code_11 rfl ?_
    refine W.bipush (pc' := 14) (14) d_method_2_code_12 rfl ?_
    refine W.lushr (pc' := 15) d_method_2_code_14 ?_
    refine W.lconst (pc' := 16) (0) d_method_2_code_15 rfl ?_
    refine W.lcmp (pc' := 17) d_method_2_code_16 ?_
    refine W.ifl_ne (pc' := 22) (pc2 := 20) d_method_2_code_17 (fun hc17 => ?_) (fun hc17 => ?_)
    · refine W.iconst (pc' := 21) (2) d_method_2_code_20 rfl ?_
      refine W.ireturn d_method_2_code_21 (by decide) (by decide) ?_
      exact ⟨by simp [own_ref, *], rfl⟩
    · refine W.lloadN (pc' := 23) d_method_2_code_22 rfl ?_
      refine W.bipush (pc' := 25) (21) d_method_2_code_23 rfl ?_
      refine W.lushr (pc' := 26) d_method_2_code_25 ?_
      refine W.lconst (pc' := 27) (0) d_method_2_code_26 rfl ?_
      refine W.lcmp (pc' := 28) d_method_2_code_27 ?_
      refine W.ifl_ne (pc' := 33) (pc2 := 31) d_method_2_code_28 (fun hc28 => ?_) (fun hc28 => ?_)
      · refine W.iconst (pc' := 32) (3) d_method_2_code_31 rfl ?_
        refine W.ireturn d_method_2_code_32 (by decide) (by decide) ?_
        exact ⟨by simp [own_ref, *], rfl⟩
      · refine W.lloadN (pc' := 34) d_method_2_code_33 rfl ?_
        refine W.bipush (pc' := 36) (28) d_method_2_code_34 rfl ?_
        refine W.lushr (pc' := 37) d_method_2_code_36 ?_
        refine W.lconst (pc' := 38) (0) d_method_2_code_37 rfl ?_
        refine W.lcmp (pc' := 39) d_method_2_code_38 ?_
        refine W.ifl_ne (pc' := 44) (pc2 := 42) d_method_2_code_39 (fun hc39 => ?_) (fun hc39 => ?_)
        · refine W.iconst (pc' := 43) (4) d_method_2_code_42 rfl ?_
          refine W.ireturn d_method_2_code_43 (by decide) (by decide) ?_
          exact ⟨by simp [own_ref, *], rfl⟩
        · refine W.lloadN (pc' := 45) d_method_2_code_44 rfl ?_
          refine W.bipush (pc' := 47) (35) d_method_2_code_45 rfl ?_
          refine W.lushr (pc' := 48) d_method_2_code_47 ?_
          refine W.lconst (pc' := 49) (0) d_method_2_code_48 rfl ?_
          refine W.lcmp (pc' := 50) d_method_2_code_49 ?_
          refine W.ifl_ne (pc' := 55) (pc2 := 53) d_method_2_code_50 (fun hc50 => ?_) (fun hc50 => ?_)
          · refine W.iconst (pc' := 54) (5) d_method_2_code_53 rfl ?_
            refine W.ireturn d_method_2_code_54 (by decide) (by decide) ?_
            exact ⟨by simp [own_ref, *], rfl⟩
          · refine W.lloadN (pc' := 56) d_method_2_code_55 rfl ?_
            refine W.bipush (pc' := 58) (42) d_method_2_code_56 rfl ?_
            refine W.lushr (pc' := 59) d_method_2_code_58 ?_
            refine W.lconst (pc' := 60) (0) d_method_2_code_59 rfl ?_
            refine W.lcmp (pc' := 61) d_method_2_code_60 ?_
            refine W.ifl_ne (pc' := 67) (pc2 := 64) d_method_2_code_61 (fun hc61 => ?_) (fun hc61 => ?_)
            · refine W.bipush (pc' := 66) (6) d_method_2_code_64 rfl ?_
              refine W.ireturn d_method_2_code_66 (by decide) (by decide) ?_
              exact ⟨by simp [own_ref, *], rfl⟩
            · refine W.lloadN (pc' := 68) d_method_2_code_67 rfl ?_
              refine W.bipush (pc' := 70) (49) d_method_2_code_68 rfl ?_
              refine W.lushr (pc' := 71) d_method_2_code_70 ?_
              refine W.lconst (pc' := 72) (0) d_method_2_code_71 rfl ?_
              refine W.lcmp (pc' := 73) d_method_2_code_72 ?_
              refine W.ifl_ne (pc' := 79) (pc2 := 76) d_method_2_code_73 (fun hc73 => ?_) (fun hc73 => ?_)
              · refine W.bipush (pc' := 78) (7) d_method_2_code_76 rfl ?_
                refine W.ireturn d_method_2_code_78 (by decide) (by decide) ?_
                exact ⟨by simp [own_ref, *], rfl⟩
              · refine W.lloadN (pc' := 80) d_method_2_code_79 rfl ?_
                refine W.bipush (pc' := 82) (56) d_method_2_code_80 rfl ?_
                refine W.lushr (pc' := 83) d_method_2_code_82 ?_
                refine W.lconst (pc' := 84) (0) d_method_2_code_83 rfl ?_
                refine W.lcmp (pc' := 85) d_method_2_code_84 ?_
                refine W.ifl_ne (pc' := 91) (pc2 := 88) d_method_2_code_85 (fun hc85 => ?_) (fun hc85 => ?_)
                · refine W.bipush (pc' := 90) (8) d_method_2_code_88 rfl ?_
                  refine W.ireturn d_method_2_code_90 (by decide) (by decide) ?_
                  exact ⟨by simp [own_ref, *], rfl⟩
                · refine W.lloadN (pc' := 92) d_method_2_code_91 rfl ?_
                  refine W.bipush (pc' := 94) (63) d_method_2_code_92 rfl ?_
                  refine W.lushr (pc' := 95) d_method_2_code_94 ?_
                  refine W.lconst (pc' := 96) (0) d_method_2_code_95 rfl ?_
                  refine W.lcmp (pc' := 97) d_method_2_code_96 ?_
                  refine W.ifl_ne (pc' := 103) (pc2 := 100) d_method_2_code_97 (fun hc97 => ?_) (fun hc97 => ?_)
                  · refine W.bipush (pc' := 102) (9) d_method_2_code_100 rfl ?_
                    refine W.ireturn d_method_2_code_102 (by decide) (by decide) ?_
                    exact ⟨by simp [own_ref, *], rfl⟩
                  · refine W.bipush (pc' := 105) (10) d_method_2_code_103 rfl ?_
                    refine W.ireturn d_method_2_code_105 (by decide) (by decide) ?_
                    exact ⟨by simp [own_ref, *], rfl⟩
set_option maxRecDepth 65536 in
set_option maxHeartbeats 4000000 in
theorem m_law {l : Launch} {Z : State} {a0 : Array Value} {n0 : Nat} (hw : ∀ d ∈ tables_1, d.before a0 Z = true) (a : Int64) (b : Int32) :
    Meth sg l Z n0 x code maxLocals ret room_1 [.long a, .int b] [] (fun v G' => v = some (.int 1)) := by
  refine Meth.of (a0 := a0) (tab := tables_1) (Ls := [.val (.long a), .second, .val (.int b), .unset, .unset]) pn_code hw sgOk (fun m => by first | rfl | (simp [entryFrame, mkF, argsToLocals, Value.category, maxLocals]; done)) ?_
  intro J W
  refine W.lloadN (pc' := 1) at_0 rfl ?_
  refine W.iloadN (pc' := 2) at_1 rfl ?_
  refine W.bipush (pc' := 4) (63) at_2 rfl ?_
  refine W.iand (pc' := 5) at_4 ?_
  refine W.lushr (pc' := 6) at_5 ?_
  refine W.lstoreN (pc' := 7) (i' := 3) at_6 rfl ?_
  simp only [List.length_cons, List.length_nil, Nat.reduceAdd, Nat.zero_add, List.cons_append, List.nil_append, List.set_cons_zero, List.set_cons_succ, Option.toList]
  refine W.lloadN (pc' := 8) at_7 rfl ?_
  refine W.callStatic (pc' := 11) at_8 (tw 0 rfl) (tw 1 rfl) (tw 2 rfl) (tw 3 rfl) (m_Encoder_varLongBytes_J hw) (lenOf pd0 rfl) rfl rfl rfl rfl (by decide) (by decide) (fun v G' hQ => ?_)
  obtain ⟨rfl, rfl⟩ := hQ
  simp only [List.length_cons, List.length_nil, Nat.reduceAdd, Nat.zero_add, List.cons_append, List.nil_append, List.set_cons_zero, List.set_cons_succ, Option.toList]
  refine W.lloadN (pc' := 12) at_11 rfl ?_
  refine W.callStatic (pc' := 15) at_12 (tw 4 rfl) (tw 5 rfl) (tw 6 rfl) (tw 7 rfl) (m_EncoderVarLongBytesPinLaw_ref_J hw) (lenOf pd0 rfl) rfl rfl rfl rfl (by decide) (by decide) (fun v G' hQ => ?_)
  obtain ⟨rfl, rfl⟩ := hQ
  simp only [List.length_cons, List.length_nil, Nat.reduceAdd, Nat.zero_add, List.cons_append, List.nil_append, List.set_cons_zero, List.set_cons_succ, Option.toList]
  refine W.icmp_ne (pc' := 22) (pc2 := 18) at_15 (fun _ => ?_) (fun hc => absurd (rfl) hc)
  refine W.iconst (pc' := 19) (1) at_18 rfl ?_
  refine W.goto (pc' := 23) at_19 ?_
  refine W.zreturn at_23 (by decide) (by decide) (by decide) ?_
  rfl
set_option maxRecDepth 65536 in
set_option maxHeartbeats 4000000 in
theorem comes_1 {Post : Tables → Env → Array Value → State → Outcome → State → Prop} (hpost : ∀ tb e args s v u, (limb_1_1.after args s (.returned v) u = true ∧ limb_1_2.after args s (.returned v) u = true ∧ True) → FrameEnd s (.returned v) u (Jvm.fieldLocs frame_1_writes args s ++ Jvm.arrayLocs frame_1_arrays args s ++ Jvm.staticLocs frame_1_statics s) 0 0 → Post tb e args s (.returned v) u) :
    ArmFor flags0 classFile x code maxLocals ret World_1 tables_1 room_1 Calls_1 rest_1 Pre_1 Post := by
  intro l hfl _ _ p e ha hc hk s m args below hf hA hF happ hP
  obtain ⟨hcalls, hrest, hpre⟩ := hP
  obtain ⟨-, -, -, hnamed, -, -, -, hat⟩ := (Spec.applies_iff hf).mp happ
  obtain ⟨hg, hn⟩ := and_e (Cond.before_iff.mp (show (Jvm.Cond.and given_1 narrow_1).before args s = true from hpre))
  obtain ⟨g0, h0⟩ := and_e hg
  obtain ⟨w0, w1, rfl⟩ : ∃ w0 w1 : Value, args = #[w0, w1] := by
    have hs : args.size = 2 := by simpa [Cond.value, given_1] using g0
    obtain ⟨L⟩ := args
    match L, hs with
    | [w0, w1], _ => exact ⟨w0, w1, rfl⟩
  have hw := fun d (hd : d ∈ tables_1) => atoms_spec (ws := Jvm.Cond.code x code maxLocals ret :: tables_1) hat d (List.mem_cons_of_mem _ hd)
  obtain ⟨g1, h1⟩ := and_e h0
  obtain ⟨i0, e0⟩ := isL_v g1
  obtain rfl : w0 = (.long i0) := Option.some.inj e0
  obtain ⟨i1, e1⟩ := is_v h1
  obtain rfl : w1 = (.int i1) := Option.some.inj e1
  obtain ⟨n, o, h1, h2, h3, _, L, rfl, ⟨G', hG', rfl, N⟩, hq⟩ := m_law (l := l) (n0 := s.heap.size) hw i0 i1 tables_1 s.heap (Rep.start s) p e ha hc hk s m _ below hf ((Spec.applies_iff_loose hf).mp happ).1 ⟨rfl, State.Warmed39.refl s, rfl⟩ trivial
  refine ⟨n, _, h1, h2, h3, hpost _ _ _ _ _ _ ⟨Cond.after_iff.mpr rfl, Cond.after_iff.mpr (eq_i res_at (Term.int_eval (1)) rfl), trivial⟩ ⟨hq.1, hq.2.1, (hq.2.2.sift fun y hy => Or.inr (N y hy)).mono (by decide) (by decide)⟩⟩
theorem main_1_1 : Claimed_1_1 := comes_1 fun _ _ _ _ _ _ h hF => ⟨h.1, hF⟩
theorem main_1_2 : Claimed_1_2 := comes_1 fun _ _ _ _ _ _ h hF => ⟨h.2.1, hF⟩
end Jvm.Pilot.@@N@@
namespace Jvm.Pilot.@@N@@
open Jvm Jvm.ClassFile Sem Op Lib Jvm.Free Jvm.Stand Jvm.Pilot.@@N@@.Jvm.D
/-! MADE BY PROGRAM (witnessworld.py) out of the Statement's table words and the real class files: 9 classes; the members and pool entries that the words name. The judged class is class 1, her method 2. -/
namespace start1
open Jvm.ClassFile
def u (s : String) : CpInfo := .utf8 (stringToUtf16 s)
/-- a pool by its gaps: so many unusable entries, then the entry; so many at the end -/
def gap : Nat → List CpInfo → List CpInfo
  | 0, r => r
  | n + 1, r => .unusable :: gap n r
def poolList (es : List (Nat × CpInfo)) (last : Nat) : List CpInfo := es.foldr (fun e r => gap e.1 (e.2 :: r)) (gap last [])
def pool (es : List (Nat × CpInfo)) (last : Nat) : Array CpInfo := ⟨poolList es last⟩
def fileOf (pool : Array CpInfo) (this : Nat) (attrs : Array Attribute := #[]) (ms : Array MethodInfo := #[]) (fl : Nat := 33) (sup : Nat := 0) (ifs : Array Nat := #[]) (fds : Array FieldInfo := #[]) : ClassFile where
  minorVersion := 0
  majorVersion := 65
  constantPool := pool
  accessFlags := fl
  thisClass := this
  superClass := sup
  interfaces := ifs
  fields := fds
  methods := ms
  attributes := attrs
def plain (name : String) (sup : Option ClassId) : Class where
  name := name
  kind := .ordinary
  loader := none
  accessFlags := 33
  super := sup
  interfaces := #[]
  cf := none
  fields := #[]
  methods := #[]
  instanceTypes := #[]
  staticTypes := #[]
  resolved := #[]
  callSites := []
  init := .initialized
  statics := none
  mirror := none

def pool0 : Array CpInfo := pool [(5, u "<init>"), (0, u "()V"), (1, .class_ 10), (1, u "java/lang/Object")] 113

def k0m0 : Method := { name := "<init>", desc := "()V", sig := { parameters := [], returnType := none }, accessFlags := 1, code := none }
/-- java/lang/Object -/
def k0 : Class := { plain "java/lang/Object" none with
  accessFlags := 33
  interfaces := #[]
  cf := some (fileOf pool0 8 #[] #[{ accessFlags := 1, nameIndex := 5, descriptorIndex := 6, attributes := #[] }] 33 0 #[] #[])
  fields := #[]
  methods := #[k0m0]
  instanceTypes := #[]
  staticTypes := #[]
  resolved := Array.replicate 124 none
  statics := none }

def pool1 : Array CpInfo := pool [(2, .class_ 4), (1, u "java/lang/Object"), (0, u "<init>"), (0, u "()V"), (0, .methodref 8 9), (0, .class_ 10), (0, .nameAndType 11 12), (0, u "com/example/usher/usher/store/Encoder"), (0, u "varLongBytes"), (0, u "(J)I"), (0, .methodref 14 15), (0, .class_ 16), (0, .nameAndType 17 12), (0, u "com/example/usher/usher/store/EncoderVarLongBytesPinLaw"), (0, u "ref"), (3, u "law"), (0, u "(JI)Z")] 2

def k1m0 : Method := { name := "<init>", desc := "()V", sig := { parameters := [], returnType := none }, accessFlags := 1, code := none }
def k1c1 : Code := { maxStack := 4, maxLocals := 2, code := method_2_code, exceptionTable := #[], attributes := #[] }
def k1m1 : Method := { name := "ref", desc := "(J)I", sig := { parameters := [.long], returnType := some .int }, accessFlags := 10, code := some k1c1 }
def k1c2 : Code := { maxStack := 4, maxLocals := 5, code := code, exceptionTable := #[], attributes := #[] }
def k1m2 : Method := { name := "law", desc := "(JI)Z", sig := { parameters := [.long, .int], returnType := some .boolean }, accessFlags := 9, code := some k1c2 }
/-- com/example/usher/usher/store/EncoderVarLongBytesPinLaw -/
def k1 : Class := { plain "com/example/usher/usher/store/EncoderVarLongBytesPinLaw" (some 0) with
  accessFlags := 49
  interfaces := #[]
  cf := some (fileOf pool1 14 #[] #[{ accessFlags := 1, nameIndex := 5, descriptorIndex := 6, attributes := #[] }, { accessFlags := 10, nameIndex := 17, descriptorIndex := 12, attributes := #[] }, { accessFlags := 9, nameIndex := 21, descriptorIndex := 22, attributes := #[] }] 49 2 #[] #[])
  fields := #[]
  methods := #[k1m0, k1m1, k1m2]
  instanceTypes := #[]
  staticTypes := #[]
  resolved := Array.replicate 25 none
  statics := none }

def pool2 : Array CpInfo := pool [(4, .class_ 6), (1, u "java/lang/Object"), (0, u "<init>"), (0, u "()V"), (28, .class_ 39), (1, u "com/example/usher/usher/store/Encoder"), (0, u "utf8"), (0, u "Ljava/nio/charset/CharsetEncoder;"), (2, u "bytes"), (0, u "[B"), (2, u "length"), (0, u "I"), (128, u "varLongBytes"), (0, u "(J)I"), (55, u "NO_RATING"), (0, u "B"), (2, u "RATING"), (1, u "MOST_BYTES")] 43

def k2m0 : Method := { name := "<init>", desc := "()V", sig := { parameters := [], returnType := none }, accessFlags := 0, code := none }
def k2c1 : Code := { maxStack := 4, maxLocals := 5, code := prog_66_method_17_code, exceptionTable := #[], attributes := #[] }
def k2m1 : Method := { name := "varLongBytes", desc := "(J)I", sig := { parameters := [.long], returnType := some .int }, accessFlags := 8, code := some k2c1 }
/-- com/example/usher/usher/store/Encoder -/
def k2 : Class := { plain "com/example/usher/usher/store/Encoder" (some 0) with
  accessFlags := 48
  interfaces := #[]
  cf := some (fileOf pool2 37 #[] #[{ accessFlags := 0, nameIndex := 7, descriptorIndex := 8, attributes := #[] }, { accessFlags := 8, nameIndex := 178, descriptorIndex := 179, attributes := #[] }] 48 4 #[] #[{ accessFlags := 24, nameIndex := 235, descriptorIndex := 236, attributes := #[] }, { accessFlags := 24, nameIndex := 239, descriptorIndex := 236, attributes := #[] }, { accessFlags := 26, nameIndex := 241, descriptorIndex := 49, attributes := #[] }, { accessFlags := 18, nameIndex := 40, descriptorIndex := 41, attributes := #[] }, { accessFlags := 2, nameIndex := 44, descriptorIndex := 45, attributes := #[] }, { accessFlags := 2, nameIndex := 48, descriptorIndex := 49, attributes := #[] }])
  fields := #[{ name := "NO_RATING", type := .byte, accessFlags := 24, slot := 0, constantValue := 0 }, { name := "RATING", type := .byte, accessFlags := 24, slot := 1, constantValue := 0 }, { name := "MOST_BYTES", type := .int, accessFlags := 26, slot := 2, constantValue := 0 }, { name := "utf8", type := (.object "java/nio/charset/CharsetEncoder"), accessFlags := 18, slot := 0, constantValue := 0 }, { name := "bytes", type := (.array .byte), accessFlags := 2, slot := 1, constantValue := 0 }, { name := "length", type := .int, accessFlags := 2, slot := 2, constantValue := 0 }]
  methods := #[k2m0, k2m1]
  instanceTypes := #[(.object "java/nio/charset/CharsetEncoder"), (.array .byte), .int]
  staticTypes := #[.byte, .byte, .int]
  resolved := Array.replicate 285 none
  statics := none }

def pool3 : Array CpInfo := pool [(1, u "java/lang/Cloneable"), (0, .class_ 1), (0, u "java/lang/Object"), (0, .class_ 3)] 3

/-- java/lang/Cloneable -/
def k3 : Class := { plain "java/lang/Cloneable" (some 0) with
  accessFlags := 1537
  interfaces := #[]
  cf := some (fileOf pool3 2 #[] #[] 1537 4 #[] #[])
  fields := #[]
  methods := #[]
  instanceTypes := #[]
  staticTypes := #[]
  resolved := Array.replicate 8 none
  statics := none }

def pool4 : Array CpInfo := pool [(1, u "java/io/Serializable"), (0, .class_ 1), (0, u "java/lang/Object"), (0, .class_ 3)] 3

/-- java/io/Serializable -/
def k4 : Class := { plain "java/io/Serializable" (some 0) with
  accessFlags := 1537
  interfaces := #[]
  cf := some (fileOf pool4 2 #[] #[] 1537 4 #[] #[])
  fields := #[]
  methods := #[]
  instanceTypes := #[]
  staticTypes := #[]
  resolved := Array.replicate 8 none
  statics := none }

/-- the primitive byte -/
def k5 : Class := { plain "byte" none with kind := .primitive 'B', accessFlags := 0x411 }
/-- [B -/
def k6 : Class := { plain "[B" (some 0) with kind := .array 5 .byte, interfaces := #[3, 4], accessFlags := 1041 }

/-- the primitive int -/
def k7 : Class := { plain "int" none with kind := .primitive 'I', accessFlags := 0x411 }
/-- [I -/
def k8 : Class := { plain "[I" (some 0) with kind := .array 7 .int, interfaces := #[3, 4], accessFlags := 1041 }

def heap : Heap := #[]
def classes : Array Class := #[k0, k1, k2, k3, k4, k5, k6, k7, k8]
def interned : List (Array UInt16 × Addr) := []
def slotsUsed : Nat := 0
def theMethod : MethodId := ⟨1, 2⟩
def args0 : Array Value := #[.long 5, .int 3]
def aboutOver (below : List Frame) : State where
  vm := { classes := classes, interned := interned.toArray }
  heap := heap
  slotsUsed := slotsUsed
  threads := #[{ frames := .invoking theMethod args0 :: below }]
def below0 : List Frame := [.native { method := ⟨0, 0⟩, args := #[] }]
def about1 : State := aboutOver below0
def p0 : Program := .bare "" "" ""
def e0 : Env := launch0.env 0 0 0
theorem w_frames : about1.frames = Frame.invoking theMethod args0 :: below0 := rfl
set_option maxRecDepth 65536 in
theorem w_args : argsFit about1.vm theMethod args0 = true := by decide +kernel
set_option maxRecDepth 65536 in
theorem w_heap : heapFits about1 = true := by decide +kernel
set_option maxRecDepth 65536 in
theorem w_runnable : about1.curStatus? = some .runnable := by decide +kernel
set_option maxRecDepth 65536 in
theorem w_alone : about1.alone = true := by decide +kernel
set_option maxRecDepth 65536 in
theorem w_named : about1.methodNamed? x = some theMethod := by decide +kernel
set_option maxRecDepth 65536 in
theorem w_hears : about1.hears theMethod below0 = true := by decide +kernel
set_option maxRecDepth 65536 in
theorem w_ripe : about1.ripe theMethod args0 below0 = true := by decide +kernel
theorem w_running : about1.status = .running := rfl
set_option maxRecDepth 65536 in
theorem w_room : about1.hasRoom e0.platform room_1 = true :=
  launch0.hasRoom_least _ room_1 (by decide +kernel) (by decide +kernel) (by decide +kernel) (by decide +kernel) (by decide +kernel) (by decide +kernel)
theorem allAtoms_all (ts : List Jvm.Cond) (a : Array Jvm.Value) (st : Jvm.State) : (allAtoms ts).before a st = ts.all (fun c => c.before a st) := by
  induction ts with
  | nil => rfl
  | cons c t ih =>
    show (Jvm.Cond.and c (allAtoms t)).before a st = _
    rw [Jvm.Cond.before_and, ih, List.all_cons]
def words1 : List Jvm.Cond := Jvm.Cond.code x code maxLocals ret :: tables_1
/-- a 'code' word, met by the world's own term for the bytes: nothing is compared byte by byte -/
theorem code_word {y : MethodName} {bytes : ByteArray} {mx : Nat} {rt : Option FieldType} {a : Array Value} {s : State} {m : MethodId} {meth : Method} {c : Code} (h1 : s.methodNamed? y = some m) (h2 : s.vm.method? m = some meth) (h3 : meth.code = some c) (h4 : c.code = bytes)
    (h5 : (c.maxLocals == mx && c.exceptionTable.isEmpty && decide (c.maxStack ≤ mostOperands) && decide (meth.sig.returnType = rt) && !meth.locks && decide (parseMethodDescriptor y.desc = some meth.sig)) = true) : (Jvm.Cond.code y bytes mx rt).before a s = true := by
  simp only [Bool.and_eq_true, beq_iff_eq, Bool.not_eq_true', decide_eq_true_eq] at h5
  obtain ⟨⟨⟨⟨⟨g1, g2⟩, g3⟩, g4⟩, g5⟩, g6⟩ := h5
  simp [Cond.before, Cond.holds, Cond.value, h1, h2, h3, h4, g1, g2, g3, g4, g5, g6]
def isCode : Jvm.Cond → Bool
  | .code _ _ _ _ => true
  | _ => false
theorem all_split {L : List Jvm.Cond} {P : Jvm.Cond → Bool} (h1 : L.all (fun c => isCode c || P c) = true) (h2 : ∀ c ∈ L.filter isCode, P c = true) : L.all P = true := by
  refine List.all_eq_true.mpr fun c hc => ?_
  have h := List.all_eq_true.mp h1 c hc
  rcases Bool.eq_false_or_eq_true (isCode c) with hi | hi
  · exact h2 c (List.mem_filter.mpr ⟨hc, hi⟩)
  · simpa [hi] using h
set_option maxRecDepth 65536 in
theorem w_c0 : (Jvm.Cond.code x code maxLocals ret).before args0 about1 = true := code_word (m := ⟨1, 2⟩) (meth := k1m2) (c := k1c2) (by decide +kernel) rfl rfl rfl (by decide +kernel)
set_option maxRecDepth 65536 in
theorem w_c1 : (Jvm.Cond.code ({ cls := "com/example/usher/usher/store/Encoder", name := "varLongBytes", desc := "(J)I" } : Jvm.MethodName) prog_66_method_17_code (5 : Nat) (Option.some Jvm.ClassFile.FieldType.int)).before args0 about1 = true := code_word (m := ⟨2, 1⟩) (meth := k2m1) (c := k2c1) (by decide +kernel) rfl rfl rfl (by decide +kernel)
set_option maxRecDepth 65536 in
theorem w_c2 : (Jvm.Cond.code ({ cls := "com/example/usher/usher/store/EncoderVarLongBytesPinLaw", name := "ref", desc := "(J)I" } : Jvm.MethodName) method_2_code (2 : Nat) (Option.some Jvm.ClassFile.FieldType.int)).before args0 about1 = true := code_word (m := ⟨1, 1⟩) (meth := k1m1) (c := k1c1) (by decide +kernel) rfl rfl rfl (by decide +kernel)
def codes1 : List Jvm.Cond := [Jvm.Cond.code x code maxLocals ret, Jvm.Cond.code ({ cls := "com/example/usher/usher/store/Encoder", name := "varLongBytes", desc := "(J)I" } : Jvm.MethodName) prog_66_method_17_code (5 : Nat) (Option.some Jvm.ClassFile.FieldType.int), Jvm.Cond.code ({ cls := "com/example/usher/usher/store/EncoderVarLongBytesPinLaw", name := "ref", desc := "(J)I" } : Jvm.MethodName) method_2_code (2 : Nat) (Option.some Jvm.ClassFile.FieldType.int)]
set_option maxRecDepth 65536 in
theorem codes_eq : words1.filter isCode = codes1 := rfl
theorem w_codes : ∀ c ∈ words1.filter isCode, c.before args0 about1 = true := by
  rw [codes_eq]
  intro c hc
  simp only [codes1, List.mem_cons, List.not_mem_nil, or_false] at hc
  rcases hc with rfl | rfl | rfl
  · exact w_c0
  · exact w_c1
  · exact w_c2
set_option maxRecDepth 65536 in
theorem w_t1 : words1.all (fun c => isCode c || c.before args0 about1) = true := by decide +kernel
theorem w_tables : (allAtoms (Jvm.Cond.code x code maxLocals ret :: tables_1)).before args0 about1 = true := by
  rw [allAtoms_all]
  show words1.all (fun c => c.before args0 about1) = true
  refine all_split ?_ w_codes
  rw [w_t1]
set_option maxRecDepth 65536 in
theorem w_case : (Jvm.Cond.and given_1 narrow_1).before args0 about1 = true := by decide +kernel
theorem w_applies : (headSpec (Jvm.Cond.code x code maxLocals ret :: tables_1) room_1).applies x e0.platform about1 = true :=
  (Spec.applies_iff w_frames).mpr ⟨w_running, w_runnable, w_alone, w_named, w_hears, w_ripe, w_room, w_tables⟩
theorem atStart : AtStart classFile x code maxLocals ret World_1 tables_1 room_1 Calls_1 rest_1 Pre_1 launch0 p0 e0 about1 theMethod args0 below0 :=
  ⟨lists_1, trivial, launch0.admits_env _ _ _, launch0.least_env, fairChoices_fair.cas, fairChoices_fair.clock, w_frames, w_args, w_heap, w_applies, trivial, trivial, w_case⟩
end start1
theorem witness_1 : WitnessClaimed_1 := ⟨start1.p0, start1.e0, start1.about1, start1.theMethod, start1.args0, start1.below0, start1.atStart⟩
end Jvm.Pilot.@@N@@
