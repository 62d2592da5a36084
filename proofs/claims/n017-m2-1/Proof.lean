import JvmDerived
import JvmDerived.Pilot.@@N@@Statement
import JvmDerived.Pilot.@@N@@Code
set_option linter.unusedVariables false
set_option linter.unusedSimpArgs false
namespace Jvm.OwnGo
open Jvm Jvm.ClassFile Sem Op Lib Jvm.Free Jvm.Stand Jvm.LawKit Jvm.RoadKit Bundle
/-- from A the invocation ends and returns what Q takes; what was written lies at n0 or above -/
def Go (p : Program) (e : Env) (below : List Frame) (s : State) (n0 k n : Nat) (Q : Option Value → Heap → Prop) (A : State) : Prop :=
  ∃ t o, Steps p.tables e below A t ∧ t.status = .running ∧ Ended t below o ∧ ∃ v L, o = .returned v ∧ (Q v t.heap ∧ Fr n0 L) ∧ FrameEnd s o t L k n
/-- what stays as it is through a walk -/
def Ctx (p : Program) (s : State) (m : MethodId) (meth : Method) (c : Code) (Z : State) (a0 : Array Value) (ws : List Jvm.Cond) (own nm : String) (bytes : ByteArray) (ml : Nat) (ret : Option FieldType) : Prop :=
  p.tables.exec = Jvm.exec ∧ Z.Warmed39 s.vm ∧ (∀ d ∈ ws, d.before a0 Z = true) ∧ s.vm.findClass own = some m.cls ∧ meth.name = nm ∧ c.code = bytes ∧ c.maxLocals = ml ∧ meth.sig.returnType = ret ∧ meth.locks = false
/-- where a walk stands -/
def St (p : Program) (l : Launch) (e : Env) (R : Room) (s : State) (m : MethodId) (args : Array Value) (below : List Frame) (meth : Method) (c : Code) (n0 : Nat) (T : State) (h : Heap) (cells slots : Nat) : Prop :=
  T.heap = h ∧ n0 ≤ s.heap.size ∧ ∃ locs, Fr n0 locs ∧ Stand p l e R s m args below meth c T locs cells slots
/-- an array: its elements, one by one -/
def AR (Z : State) (h : Heap) (a : Addr) (ty : FieldType) (vs : List Value) : Prop := ∃ c : Cell, Arr Z h a c ty ∧ c.slots = vs.toArray ∧ vs.length < 2 ^ 31
/-- a method's contract at one heap -/
def Con (l : Launch) (Z : State) (y : MethodName) (bytes : ByteArray) (ml : Nat) (ret : Option FieldType) (wx : List Jvm.Cond) (rm : Room) (n0 : Nat) (as : Array Value) (h0 : Heap) (Q : Option Value → Heap → Prop) : Prop :=
  MetFree l y (head1 (Jvm.Cond.code y bytes ml ret :: wx) rm) (fun a U => a = as ∧ Z.Warmed39 U.vm ∧ U.heap = h0) (fun _ _ _ _ _ => True) (fun _ U o U' => ∃ v L, o = .returned v ∧ (Q v U'.heap ∧ Fr n0 L) ∧ FrameEnd U o U' L rm.cells rm.slots)
section One
variable {p : Program} {l : Launch} {e : Env} {R : Room} {s : State} {m : MethodId} {args : Array Value} {below : List Frame} {meth : Method} {c : Code} {T : State} {h h' : Heap} {n0 cells slots k n : Nat} {Q : Option Value → Heap → Prop} {A B Z : State} {a0 : Array Value} {ws : List Jvm.Cond} {own nm : String} {bytes : ByteArray} {ml pc : Nat} {ret : Option FieldType} {Ls : Array Slot} {rest stk : List Value}
def ius (x y : Int32) : Int32 := (x.toUInt32 >>> (y &&& 31).toUInt32).toInt32
def lus (x : Int64) (y : Int32) : Int64 := (x.toUInt64 >>> (y &&& 0x3f).toInt64.toUInt64).toInt64
theorem tm0 (x d : Int) : x.tmod d = 0 ↔ x % d = 0 := ⟨fun h => Int.emod_eq_zero_of_dvd (Int.dvd_of_tmod_eq_zero h), fun h => Int.tmod_eq_zero_of_dvd (Int.dvd_of_emod_eq_zero h)⟩
theorem irr (x : Int32) : ¬ x < x := by rw [Int32.lt_iff_toInt_lt]; omega
theorem wd {ws : List Jvm.Cond} (i : Nat) {d : Jvm.Cond} (q : ws[i]? = some d) : d ∈ ws := List.mem_of_getElem? q
theorem Ctx.hx (C : Ctx p s m meth c Z a0 ws own nm bytes ml ret) : p.tables.exec = Jvm.exec := C.1
theorem Ctx.hZ (C : Ctx p s m meth c Z a0 ws own nm bytes ml ret) : Z.Warmed39 s.vm := C.2.1
theorem Ctx.w (C : Ctx p s m meth c Z a0 ws own nm bytes ml ret) {d : Jvm.Cond} (q : d ∈ ws) : d.before a0 Z = true := C.2.2.1 d q
theorem Ctx.hown (C : Ctx p s m meth c Z a0 ws own nm bytes ml ret) : s.vm.findClass own = some m.cls := C.2.2.2.1
theorem Ctx.hnm (C : Ctx p s m meth c Z a0 ws own nm bytes ml ret) : meth.name = nm := C.2.2.2.2.1
theorem Ctx.hby (C : Ctx p s m meth c Z a0 ws own nm bytes ml ret) : c.code = bytes := C.2.2.2.2.2.1
theorem Ctx.hml (C : Ctx p s m meth c Z a0 ws own nm bytes ml ret) : c.maxLocals = ml := C.2.2.2.2.2.2.1
theorem Ctx.hret (C : Ctx p s m meth c Z a0 ws own nm bytes ml ret) : meth.sig.returnType = ret := C.2.2.2.2.2.2.2.1
theorem Ctx.hlk (C : Ctx p s m meth c Z a0 ws own nm bytes ml ret) : meth.locks = false := C.2.2.2.2.2.2.2.2
theorem St.here (X : St p l e R s m args below meth c n0 T h cells slots) : At T m c below := by obtain ⟨-, -, _, -, X⟩ := X; exact X.here
theorem St.size (X : St p l e R s m args below meth c n0 T h cells slots) : n0 ≤ h.size := by
  obtain ⟨rfl, hz, _, -, X⟩ := X
  exact Nat.le_trans hz X.same.2.1
theorem St.mono (X : St p l e R s m args below meth c n0 T h cells slots) {cells' slots' : Nat} (h1 : cells ≤ cells') (h2 : slots ≤ slots') : St p l e R s m args below meth c n0 T h cells' slots' := by
  obtain ⟨e0, hz, locs, N, X⟩ := X
  exact ⟨e0, hz, locs, N, { X with same := X.same.mono h1 h2 }⟩
theorem Go.st (q : ∀ t, Steps p.tables e below B t → Steps p.tables e below A t) (g : Go p e below s n0 k n Q B) : Go p e below s n0 k n Q A := by
  obtain ⟨t, o, h1, r⟩ := g
  exact ⟨t, o, q t h1, r⟩
theorem Go.tr (q : Steps p.tables e below A B) (g : Go p e below s n0 k n Q B) : Go p e below s n0 k n Q A := Go.st (fun _ r => q.trans r) g
theorem Con.mk {y : MethodName} {wx : List Jvm.Cond} {rm : Room} {as : Array Value} {h0 : Heap} (hp : plainFor y = true) (hw : ∀ d ∈ ws, d.before a0 Z = true) (hz : n0 ≤ h0.size)
    (H : ∀ (p : Program) (e : Env) (s : State) (m : MethodId) (below : List Frame) (meth : Method) (c : Code) (T : State), Ctx p s m meth c Z a0 ws y.cls y.name bytes ml ret → St p l e rm s m as below meth c n0 T h0 0 0 → Go p e below s n0 rm.cells rm.slots Q (T.setTop (entryFrame m as ml))) : Con l Z y bytes ml ret wx rm n0 as h0 Q := by
  refine MetFree.of_bodySF hp hisR ?_
  intro p e s m args below meth c s₁ Bd hml hP hK
  obtain ⟨rfl, hZ, hh⟩ := hP
  have hE : s₁.heap = h0 := by rw [← hh, Bd.state]; rfl
  exact H p e s m below meth c s₁ ⟨Bd.exec, hZ, hw, findClass_of_methodNamed Bd.named, (name_of_methodNamed Bd.named Bd.method).1, Bd.bytes, hml, Bd.returns, BodyLoose.notSynchronized Bd⟩ ⟨hE, by rw [hh]; exact hz, [], Fr.nil n0, Stand.of_body Bd⟩
theorem Go.retAny (C : Ctx p s m meth c Z a0 ws own nm bytes ml ret) (X : St p l e R s m args below meth c n0 T h cells slots) {w : Value} {t : FieldType} {i : Instr} (hret : ret = some t) (hn : narrow t w = w)
    (hi : (i = .ireturn ∧ (t = .int ∨ t = .boolean ∨ t = .byte ∨ t = .char ∨ t = .short) ∧ ∃ z, w = .int z) ∨ (i = .lreturn ∧ t = .long ∧ ∃ z, w = .long z) ∨ (i = .dreturn ∧ t = .double ∧ ∃ z, w = .double z) ∨ (i = .freturn ∧ t = .float ∧ ∃ z, w = .float z) ∨ (i = .areturn ∧ t.isReference = true ∧ w.isRef = true))
    (hd : decode bytes pc = .ok (i, 1)) (hQ : Q (some w) h) (hk : cells ≤ k) (hs : slots ≤ n) : Go p e below s n0 k n Q (T.setTop (mkF m pc Ls (w :: rest))) := by
  obtain ⟨rfl, hz, locs, N, X⟩ := X
  obtain ⟨fs, hr, hrun, hended, hW, hsame⟩ := X.leave (v := some w) (fun q => by rw [C.hret, hret] at q; cases q) C.hlk
  exact ⟨_, _, retOut X C.hx (C.hret.trans hret) hn hi (hb C.hby hd) hr, hrun, hended, _, _, rfl, ⟨hQ, N⟩, ⟨_, rfl⟩, hW, hsame.mono hk hs⟩
theorem Go.retI (C : Ctx p s m meth c Z a0 ws own nm bytes ml (some .int)) (X : St p l e R s m args below meth c n0 T h cells slots) {z : Int32} (hd : decode bytes pc = .ok (.ireturn, 1)) (hQ : Q (some (.int z)) h) (hk : cells ≤ k) (hs : slots ≤ n) : Go p e below s n0 k n Q (T.setTop (mkF m pc Ls (.int z :: rest))) :=
  Go.retAny C X rfl rfl (Or.inl ⟨rfl, Or.inl rfl, _, rfl⟩) hd hQ hk hs
theorem Go.retZ (C : Ctx p s m meth c Z a0 ws own nm bytes ml (some .boolean)) (X : St p l e R s m args below meth c n0 T h cells slots) {z : Int32} (hz : z = 0 ∨ z = 1) (hd : decode bytes pc = .ok (.ireturn, 1)) (hQ : Q (some (.int z)) h) (hk : cells ≤ k) (hs : slots ≤ n) : Go p e below s n0 k n Q (T.setTop (mkF m pc Ls (.int z :: rest))) :=
  Go.retAny C X rfl (by rcases hz with rfl | rfl <;> rfl) (Or.inl ⟨rfl, Or.inr (Or.inl rfl), _, rfl⟩) hd hQ hk hs
theorem Go.retJ (C : Ctx p s m meth c Z a0 ws own nm bytes ml (some .long)) (X : St p l e R s m args below meth c n0 T h cells slots) {z : Int64} (hd : decode bytes pc = .ok (.lreturn, 1)) (hQ : Q (some (.long z)) h) (hk : cells ≤ k) (hs : slots ≤ n) : Go p e below s n0 k n Q (T.setTop (mkF m pc Ls (.long z :: rest))) :=
  Go.retAny C X rfl rfl (Or.inr (Or.inl ⟨rfl, rfl, _, rfl⟩)) hd hQ hk hs
theorem Go.retA {t : FieldType} (C : Ctx p s m meth c Z a0 ws own nm bytes ml (some t)) (X : St p l e R s m args below meth c n0 T h cells slots) {v : Value} (ht : t.isReference = true) (hv : v.isRef = true) (hd : decode bytes pc = .ok (.areturn, 1)) (hQ : Q (some v) h) (hk : cells ≤ k) (hs : slots ≤ n) : Go p e below s n0 k n Q (T.setTop (mkF m pc Ls (v :: rest))) :=
  Go.retAny C X rfl (by cases t <;> cases v <;> first | rfl | (simp [FieldType.isReference] at ht; done) | (simp [Value.isRef] at hv; done)) (Or.inr (Or.inr (Or.inr (Or.inr ⟨rfl, ht, hv⟩)))) hd hQ hk hs
theorem Go.retV (C : Ctx p s m meth c Z a0 ws own nm bytes ml none) (X : St p l e R s m args below meth c n0 T h cells slots) (hd : decode bytes pc = .ok (.return_, 1)) (hQ : Q none h) (hk : cells ≤ k) (hs : slots ≤ n) : Go p e below s n0 k n Q (T.setTop (mkF m pc Ls [])) := by
  obtain ⟨rfl, hz, locs, N, X⟩ := X
  obtain ⟨fs, hr, hrun, hended, hW, hsame⟩ := X.leave (v := none) (fun _ => rfl) C.hlk
  exact ⟨_, _, X.returnOut C.hx C.hret (hb C.hby hd) hr, hrun, hended, _, _, rfl, ⟨hQ, N⟩, ⟨_, rfl⟩, hW, hsame.mono hk hs⟩
theorem Go.if_eq (C : Ctx p s m meth c Z a0 ws own nm bytes ml ret) (X : St p l e R s m args below meth c n0 T h cells slots) {x : Int32} {o : Int} {pc' : Nat} (hd : decode bytes pc = .ok (.ifCond .eq o, 3)) (ho : 0 ≤ (pc : Int) + o) (hp : ((pc : Int) + o).toNat = pc') (Y : x = 0 → Go p e below s n0 k n Q (T.setTop (mkF m pc' Ls rest))) (N : ¬ x = 0 → Go p e below s n0 k n Q (T.setTop (mkF m (pc + 3) Ls rest))) : Go p e below s n0 k n Q (T.setTop (mkF m pc Ls (.int x :: rest))) := by
  by_cases q : x = 0
  · exact Go.st (fun _ => XS.ifYes X.here C.hx rfl rfl (hb C.hby hd) rfl (by simpa [ifCond.holds] using q) ho hp) (Y q)
  · exact Go.st (fun _ => XS.ifNo X.here C.hx rfl (hb C.hby hd) rfl (by simpa [ifCond.holds] using q) ) (N q)
theorem Go.icmp_eq (C : Ctx p s m meth c Z a0 ws own nm bytes ml ret) (X : St p l e R s m args below meth c n0 T h cells slots) {x y : Int32} {o : Int} {pc' : Nat} (hd : decode bytes pc = .ok (.if_icmp .eq o, 3)) (ho : 0 ≤ (pc : Int) + o) (hp : ((pc : Int) + o).toNat = pc') (Y : x = y → Go p e below s n0 k n Q (T.setTop (mkF m pc' Ls rest))) (N : ¬ x = y → Go p e below s n0 k n Q (T.setTop (mkF m (pc + 3) Ls rest))) : Go p e below s n0 k n Q (T.setTop (mkF m pc Ls (.int y :: .int x :: rest))) := by
  by_cases q : x = y
  · exact Go.st (fun _ => XS.icmpYes X.here C.hx rfl rfl (hb C.hby hd) rfl (by simpa [if_icmp.holds] using q) ho hp) (Y q)
  · exact Go.st (fun _ => XS.icmpNo X.here C.hx rfl (hb C.hby hd) rfl (by simpa [if_icmp.holds] using q) ) (N q)
theorem Go.if_ne (C : Ctx p s m meth c Z a0 ws own nm bytes ml ret) (X : St p l e R s m args below meth c n0 T h cells slots) {x : Int32} {o : Int} {pc' : Nat} (hd : decode bytes pc = .ok (.ifCond .ne o, 3)) (ho : 0 ≤ (pc : Int) + o) (hp : ((pc : Int) + o).toNat = pc') (Y : ¬ x = 0 → Go p e below s n0 k n Q (T.setTop (mkF m pc' Ls rest))) (N : x = 0 → Go p e below s n0 k n Q (T.setTop (mkF m (pc + 3) Ls rest))) : Go p e below s n0 k n Q (T.setTop (mkF m pc Ls (.int x :: rest))) := by
  by_cases q : x = 0
  · exact Go.st (fun _ => XS.ifNo X.here C.hx rfl (hb C.hby hd) rfl (by simpa [ifCond.holds] using q) ) (N q)
  · exact Go.st (fun _ => XS.ifYes X.here C.hx rfl rfl (hb C.hby hd) rfl (by simpa [ifCond.holds] using q) ho hp) (Y q)
theorem Go.icmp_ne (C : Ctx p s m meth c Z a0 ws own nm bytes ml ret) (X : St p l e R s m args below meth c n0 T h cells slots) {x y : Int32} {o : Int} {pc' : Nat} (hd : decode bytes pc = .ok (.if_icmp .ne o, 3)) (ho : 0 ≤ (pc : Int) + o) (hp : ((pc : Int) + o).toNat = pc') (Y : ¬ x = y → Go p e below s n0 k n Q (T.setTop (mkF m pc' Ls rest))) (N : x = y → Go p e below s n0 k n Q (T.setTop (mkF m (pc + 3) Ls rest))) : Go p e below s n0 k n Q (T.setTop (mkF m pc Ls (.int y :: .int x :: rest))) := by
  by_cases q : x = y
  · exact Go.st (fun _ => XS.icmpNo X.here C.hx rfl (hb C.hby hd) rfl (by simpa [if_icmp.holds] using q) ) (N q)
  · exact Go.st (fun _ => XS.icmpYes X.here C.hx rfl rfl (hb C.hby hd) rfl (by simpa [if_icmp.holds] using q) ho hp) (Y q)
theorem Go.if_lt (C : Ctx p s m meth c Z a0 ws own nm bytes ml ret) (X : St p l e R s m args below meth c n0 T h cells slots) {x : Int32} {o : Int} {pc' : Nat} (hd : decode bytes pc = .ok (.ifCond .lt o, 3)) (ho : 0 ≤ (pc : Int) + o) (hp : ((pc : Int) + o).toNat = pc') (Y : x < 0 → Go p e below s n0 k n Q (T.setTop (mkF m pc' Ls rest))) (N : ¬ x < 0 → Go p e below s n0 k n Q (T.setTop (mkF m (pc + 3) Ls rest))) : Go p e below s n0 k n Q (T.setTop (mkF m pc Ls (.int x :: rest))) := by
  by_cases q : x < 0
  · exact Go.st (fun _ => XS.ifYes X.here C.hx rfl rfl (hb C.hby hd) rfl (by simpa [ifCond.holds] using q) ho hp) (Y q)
  · exact Go.st (fun _ => XS.ifNo X.here C.hx rfl (hb C.hby hd) rfl (by simpa [ifCond.holds] using q) ) (N q)
theorem Go.icmp_lt (C : Ctx p s m meth c Z a0 ws own nm bytes ml ret) (X : St p l e R s m args below meth c n0 T h cells slots) {x y : Int32} {o : Int} {pc' : Nat} (hd : decode bytes pc = .ok (.if_icmp .lt o, 3)) (ho : 0 ≤ (pc : Int) + o) (hp : ((pc : Int) + o).toNat = pc') (Y : x < y → Go p e below s n0 k n Q (T.setTop (mkF m pc' Ls rest))) (N : ¬ x < y → Go p e below s n0 k n Q (T.setTop (mkF m (pc + 3) Ls rest))) : Go p e below s n0 k n Q (T.setTop (mkF m pc Ls (.int y :: .int x :: rest))) := by
  by_cases q : x < y
  · exact Go.st (fun _ => XS.icmpYes X.here C.hx rfl rfl (hb C.hby hd) rfl (by simpa [if_icmp.holds] using q) ho hp) (Y q)
  · exact Go.st (fun _ => XS.icmpNo X.here C.hx rfl (hb C.hby hd) rfl (by simpa [if_icmp.holds] using q) ) (N q)
theorem Go.if_ge (C : Ctx p s m meth c Z a0 ws own nm bytes ml ret) (X : St p l e R s m args below meth c n0 T h cells slots) {x : Int32} {o : Int} {pc' : Nat} (hd : decode bytes pc = .ok (.ifCond .ge o, 3)) (ho : 0 ≤ (pc : Int) + o) (hp : ((pc : Int) + o).toNat = pc') (Y : ¬ x < 0 → Go p e below s n0 k n Q (T.setTop (mkF m pc' Ls rest))) (N : x < 0 → Go p e below s n0 k n Q (T.setTop (mkF m (pc + 3) Ls rest))) : Go p e below s n0 k n Q (T.setTop (mkF m pc Ls (.int x :: rest))) := by
  by_cases q : x < 0
  · exact Go.st (fun _ => XS.ifNo X.here C.hx rfl (hb C.hby hd) rfl (by simpa [ifCond.holds, Int32.not_lt] using q) ) (N q)
  · exact Go.st (fun _ => XS.ifYes X.here C.hx rfl rfl (hb C.hby hd) rfl (by simpa [ifCond.holds, Int32.not_lt] using q) ho hp) (Y q)
theorem Go.icmp_ge (C : Ctx p s m meth c Z a0 ws own nm bytes ml ret) (X : St p l e R s m args below meth c n0 T h cells slots) {x y : Int32} {o : Int} {pc' : Nat} (hd : decode bytes pc = .ok (.if_icmp .ge o, 3)) (ho : 0 ≤ (pc : Int) + o) (hp : ((pc : Int) + o).toNat = pc') (Y : ¬ x < y → Go p e below s n0 k n Q (T.setTop (mkF m pc' Ls rest))) (N : x < y → Go p e below s n0 k n Q (T.setTop (mkF m (pc + 3) Ls rest))) : Go p e below s n0 k n Q (T.setTop (mkF m pc Ls (.int y :: .int x :: rest))) := by
  by_cases q : x < y
  · exact Go.st (fun _ => XS.icmpNo X.here C.hx rfl (hb C.hby hd) rfl (by simpa [if_icmp.holds, Int32.not_lt] using q) ) (N q)
  · exact Go.st (fun _ => XS.icmpYes X.here C.hx rfl rfl (hb C.hby hd) rfl (by simpa [if_icmp.holds, Int32.not_lt] using q) ho hp) (Y q)
theorem Go.if_gt (C : Ctx p s m meth c Z a0 ws own nm bytes ml ret) (X : St p l e R s m args below meth c n0 T h cells slots) {x : Int32} {o : Int} {pc' : Nat} (hd : decode bytes pc = .ok (.ifCond .gt o, 3)) (ho : 0 ≤ (pc : Int) + o) (hp : ((pc : Int) + o).toNat = pc') (Y : 0 < x → Go p e below s n0 k n Q (T.setTop (mkF m pc' Ls rest))) (N : ¬ 0 < x → Go p e below s n0 k n Q (T.setTop (mkF m (pc + 3) Ls rest))) : Go p e below s n0 k n Q (T.setTop (mkF m pc Ls (.int x :: rest))) := by
  by_cases q : 0 < x
  · exact Go.st (fun _ => XS.ifYes X.here C.hx rfl rfl (hb C.hby hd) rfl (by simpa [ifCond.holds] using q) ho hp) (Y q)
  · exact Go.st (fun _ => XS.ifNo X.here C.hx rfl (hb C.hby hd) rfl (by simpa [ifCond.holds] using q) ) (N q)
theorem Go.icmp_gt (C : Ctx p s m meth c Z a0 ws own nm bytes ml ret) (X : St p l e R s m args below meth c n0 T h cells slots) {x y : Int32} {o : Int} {pc' : Nat} (hd : decode bytes pc = .ok (.if_icmp .gt o, 3)) (ho : 0 ≤ (pc : Int) + o) (hp : ((pc : Int) + o).toNat = pc') (Y : y < x → Go p e below s n0 k n Q (T.setTop (mkF m pc' Ls rest))) (N : ¬ y < x → Go p e below s n0 k n Q (T.setTop (mkF m (pc + 3) Ls rest))) : Go p e below s n0 k n Q (T.setTop (mkF m pc Ls (.int y :: .int x :: rest))) := by
  by_cases q : y < x
  · exact Go.st (fun _ => XS.icmpYes X.here C.hx rfl rfl (hb C.hby hd) rfl (by simpa [if_icmp.holds] using q) ho hp) (Y q)
  · exact Go.st (fun _ => XS.icmpNo X.here C.hx rfl (hb C.hby hd) rfl (by simpa [if_icmp.holds] using q) ) (N q)
theorem Go.if_le (C : Ctx p s m meth c Z a0 ws own nm bytes ml ret) (X : St p l e R s m args below meth c n0 T h cells slots) {x : Int32} {o : Int} {pc' : Nat} (hd : decode bytes pc = .ok (.ifCond .le o, 3)) (ho : 0 ≤ (pc : Int) + o) (hp : ((pc : Int) + o).toNat = pc') (Y : ¬ 0 < x → Go p e below s n0 k n Q (T.setTop (mkF m pc' Ls rest))) (N : 0 < x → Go p e below s n0 k n Q (T.setTop (mkF m (pc + 3) Ls rest))) : Go p e below s n0 k n Q (T.setTop (mkF m pc Ls (.int x :: rest))) := by
  by_cases q : 0 < x
  · exact Go.st (fun _ => XS.ifNo X.here C.hx rfl (hb C.hby hd) rfl (by simpa [ifCond.holds, Int32.not_lt] using q) ) (N q)
  · exact Go.st (fun _ => XS.ifYes X.here C.hx rfl rfl (hb C.hby hd) rfl (by simpa [ifCond.holds, Int32.not_lt] using q) ho hp) (Y q)
theorem Go.icmp_le (C : Ctx p s m meth c Z a0 ws own nm bytes ml ret) (X : St p l e R s m args below meth c n0 T h cells slots) {x y : Int32} {o : Int} {pc' : Nat} (hd : decode bytes pc = .ok (.if_icmp .le o, 3)) (ho : 0 ≤ (pc : Int) + o) (hp : ((pc : Int) + o).toNat = pc') (Y : ¬ y < x → Go p e below s n0 k n Q (T.setTop (mkF m pc' Ls rest))) (N : y < x → Go p e below s n0 k n Q (T.setTop (mkF m (pc + 3) Ls rest))) : Go p e below s n0 k n Q (T.setTop (mkF m pc Ls (.int y :: .int x :: rest))) := by
  by_cases q : y < x
  · exact Go.st (fun _ => XS.icmpNo X.here C.hx rfl (hb C.hby hd) rfl (by simpa [if_icmp.holds, Int32.not_lt] using q) ) (N q)
  · exact Go.st (fun _ => XS.icmpYes X.here C.hx rfl rfl (hb C.hby hd) rfl (by simpa [if_icmp.holds, Int32.not_lt] using q) ho hp) (Y q)
theorem Go.lif_eq (C : Ctx p s m meth c Z a0 ws own nm bytes ml ret) (X : St p l e R s m args below meth c n0 T h cells slots) {x y : Int64} {o : Int} {pc' : Nat} (hd : decode bytes pc = .ok (.ifCond .eq o, 3)) (ho : 0 ≤ (pc : Int) + o) (hp : ((pc : Int) + o).toNat = pc') (Y : x = y → Go p e below s n0 k n Q (T.setTop (mkF m pc' Ls rest))) (N : ¬ x = y → Go p e below s n0 k n Q (T.setTop (mkF m (pc + 3) Ls rest))) : Go p e below s n0 k n Q (T.setTop (mkF m pc Ls (.int (lcmpW x y) :: rest))) := by
  have q := lc_eq x y
  rw [← lcW] at q
  exact Go.if_eq C X hd ho hp (fun r => Y (q.mp r)) (fun r => N (fun u => r (q.mpr u)))
theorem Go.lif_ne (C : Ctx p s m meth c Z a0 ws own nm bytes ml ret) (X : St p l e R s m args below meth c n0 T h cells slots) {x y : Int64} {o : Int} {pc' : Nat} (hd : decode bytes pc = .ok (.ifCond .ne o, 3)) (ho : 0 ≤ (pc : Int) + o) (hp : ((pc : Int) + o).toNat = pc') (Y : ¬ x = y → Go p e below s n0 k n Q (T.setTop (mkF m pc' Ls rest))) (N : x = y → Go p e below s n0 k n Q (T.setTop (mkF m (pc + 3) Ls rest))) : Go p e below s n0 k n Q (T.setTop (mkF m pc Ls (.int (lcmpW x y) :: rest))) := by
  have q := lc_eq x y
  rw [← lcW] at q
  exact Go.if_ne C X hd ho hp (fun r => Y (fun u => r (q.mpr u))) (fun r => N (q.mp r))
theorem Go.lif_lt (C : Ctx p s m meth c Z a0 ws own nm bytes ml ret) (X : St p l e R s m args below meth c n0 T h cells slots) {x y : Int64} {o : Int} {pc' : Nat} (hd : decode bytes pc = .ok (.ifCond .lt o, 3)) (ho : 0 ≤ (pc : Int) + o) (hp : ((pc : Int) + o).toNat = pc') (Y : x < y → Go p e below s n0 k n Q (T.setTop (mkF m pc' Ls rest))) (N : ¬ x < y → Go p e below s n0 k n Q (T.setTop (mkF m (pc + 3) Ls rest))) : Go p e below s n0 k n Q (T.setTop (mkF m pc Ls (.int (lcmpW x y) :: rest))) := by
  have q := lc_lt x y
  rw [← lcW] at q
  exact Go.if_lt C X hd ho hp (fun r => Y (q.mp r)) (fun r => N (fun u => r (q.mpr u)))
theorem Go.lif_ge (C : Ctx p s m meth c Z a0 ws own nm bytes ml ret) (X : St p l e R s m args below meth c n0 T h cells slots) {x y : Int64} {o : Int} {pc' : Nat} (hd : decode bytes pc = .ok (.ifCond .ge o, 3)) (ho : 0 ≤ (pc : Int) + o) (hp : ((pc : Int) + o).toNat = pc') (Y : ¬ x < y → Go p e below s n0 k n Q (T.setTop (mkF m pc' Ls rest))) (N : x < y → Go p e below s n0 k n Q (T.setTop (mkF m (pc + 3) Ls rest))) : Go p e below s n0 k n Q (T.setTop (mkF m pc Ls (.int (lcmpW x y) :: rest))) := by
  have q := lc_lt x y
  rw [← lcW] at q
  exact Go.if_ge C X hd ho hp (fun r => Y (fun u => r (q.mpr u))) (fun r => N (q.mp r))
theorem Go.lif_gt (C : Ctx p s m meth c Z a0 ws own nm bytes ml ret) (X : St p l e R s m args below meth c n0 T h cells slots) {x y : Int64} {o : Int} {pc' : Nat} (hd : decode bytes pc = .ok (.ifCond .gt o, 3)) (ho : 0 ≤ (pc : Int) + o) (hp : ((pc : Int) + o).toNat = pc') (Y : y < x → Go p e below s n0 k n Q (T.setTop (mkF m pc' Ls rest))) (N : ¬ y < x → Go p e below s n0 k n Q (T.setTop (mkF m (pc + 3) Ls rest))) : Go p e below s n0 k n Q (T.setTop (mkF m pc Ls (.int (lcmpW x y) :: rest))) := by
  have q := lc_gt x y
  rw [← lcW] at q
  exact Go.if_gt C X hd ho hp (fun r => Y (q.mp r)) (fun r => N (fun u => r (q.mpr u)))
theorem Go.lif_le (C : Ctx p s m meth c Z a0 ws own nm bytes ml ret) (X : St p l e R s m args below meth c n0 T h cells slots) {x y : Int64} {o : Int} {pc' : Nat} (hd : decode bytes pc = .ok (.ifCond .le o, 3)) (ho : 0 ≤ (pc : Int) + o) (hp : ((pc : Int) + o).toNat = pc') (Y : ¬ y < x → Go p e below s n0 k n Q (T.setTop (mkF m pc' Ls rest))) (N : y < x → Go p e below s n0 k n Q (T.setTop (mkF m (pc + 3) Ls rest))) : Go p e below s n0 k n Q (T.setTop (mkF m pc Ls (.int (lcmpW x y) :: rest))) := by
  have q := lc_gt x y
  rw [← lcW] at q
  exact Go.if_le C X hd ho hp (fun r => Y (fun u => r (q.mpr u))) (fun r => N (q.mp r))
theorem Go.acmp_eq (C : Ctx p s m meth c Z a0 ws own nm bytes ml ret) (X : St p l e R s m args below meth c n0 T h cells slots) {x y : Value} (h1 : x.isRef = true) (h2 : y.isRef = true) {o : Int} {pc' : Nat} (hd : decode bytes pc = .ok (.if_acmp .eq o, 3)) (ho : 0 ≤ (pc : Int) + o) (hp : ((pc : Int) + o).toNat = pc') (Y : x = y → Go p e below s n0 k n Q (T.setTop (mkF m pc' Ls rest))) (N : ¬ x = y → Go p e below s n0 k n Q (T.setTop (mkF m (pc + 3) Ls rest))) : Go p e below s n0 k n Q (T.setTop (mkF m pc Ls (y :: x :: rest))) := by
  obtain ⟨-, -, _, -, X⟩ := X
  by_cases q : x = y
  · exact Go.st (fun _ => Jvm.RoadKit.acmp (g := mkF m pc Ls (y :: x :: rest)) X C.hx rfl h1 h2 (same := true) rfl (hb C.hby hd) rfl (decide_eq_true q) ho (by rw [← hp]; rfl)) (Y q)
  · exact Go.st (fun _ => Jvm.RoadKit.acmp (g := mkF m pc Ls (y :: x :: rest)) X C.hx rfl h1 h2 (same := false) rfl (hb C.hby hd) rfl (decide_eq_false q) ho (by rfl)) (N q)
theorem Go.acmp_ne (C : Ctx p s m meth c Z a0 ws own nm bytes ml ret) (X : St p l e R s m args below meth c n0 T h cells slots) {x y : Value} (h1 : x.isRef = true) (h2 : y.isRef = true) {o : Int} {pc' : Nat} (hd : decode bytes pc = .ok (.if_acmp .ne o, 3)) (ho : 0 ≤ (pc : Int) + o) (hp : ((pc : Int) + o).toNat = pc') (Y : ¬ x = y → Go p e below s n0 k n Q (T.setTop (mkF m pc' Ls rest))) (N : x = y → Go p e below s n0 k n Q (T.setTop (mkF m (pc + 3) Ls rest))) : Go p e below s n0 k n Q (T.setTop (mkF m pc Ls (y :: x :: rest))) := by
  obtain ⟨-, -, _, -, X⟩ := X
  by_cases q : x = y
  · exact Go.st (fun _ => Jvm.RoadKit.acmp (g := mkF m pc Ls (y :: x :: rest)) X C.hx rfl h1 h2 (same := true) rfl (hb C.hby hd) rfl (decide_eq_true q) ho (by rfl)) (N q)
  · exact Go.st (fun _ => Jvm.RoadKit.acmp (g := mkF m pc Ls (y :: x :: rest)) X C.hx rfl h1 h2 (same := false) rfl (hb C.hby hd) rfl (decide_eq_false q) ho (by rw [← hp]; rfl)) (Y q)
theorem Go.getF (C : Ctx p s m meth c Z a0 ws own nm bytes ml ret) (X : St p l e R s m args below meth c n0 T h cells slots) {O n1 d : String} {i : Nat} {a : Addr} {v : Value} (w : Jvm.Cond.fieldLink own i O n1 d ∈ ws) (F : Fld Z h a O n1 d v) (hd : decode bytes pc = .ok (.getfield i, 3)) (K : ∀ T', St p l e R s m args below meth c n0 T' h cells slots → Go p e below s n0 k n Q (T'.setTop (mkF m (pc + 3) Ls (v :: rest)))) : Go p e below s n0 k n Q (T.setTop (mkF m pc Ls (.ref a :: rest))) := by
  obtain ⟨e0, hz, locs, N, X⟩ := X
  obtain ⟨T', X', e', st⟩ := Jvm.RoadKit.getF X C.hx C.hZ C.hown (host := "") (Or.inl (C.w w)) Via.refl e0 F (g := mkF m pc Ls (.ref a :: rest)) rfl rfl (hb C.hby hd)
  exact Go.st st (K T' ⟨e', hz, locs, N, X'⟩)
theorem Go.getS (C : Ctx p s m meth c Z a0 ws own nm bytes ml ret) (X : St p l e R s m args below meth c n0 T h cells slots) {O n1 d : String} {i : Nat} {v : Value} (w : Jvm.Cond.fieldLink own i O n1 d ∈ ws) (F : Sta Z h O n1 d v) (hd : decode bytes pc = .ok (.getstatic i, 3)) (K : ∀ T', St p l e R s m args below meth c n0 T' h cells slots → Go p e below s n0 k n Q (T'.setTop (mkF m (pc + 3) Ls (v :: stk)))) : Go p e below s n0 k n Q (T.setTop (mkF m pc Ls stk)) := by
  obtain ⟨e0, hz, locs, N, X⟩ := X
  obtain ⟨T', X', e', st⟩ := Jvm.RoadKit.getS2 X C.hx C.hZ C.hown (host := "") (Or.inl (C.w w)) Via.refl e0 F (g := mkF m pc Ls stk) rfl (hb C.hby hd)
  exact Go.st st (K T' ⟨e', hz, locs, N, X'⟩)
theorem Go.putF (C : Ctx p s m meth c Z a0 ws own nm bytes ml ret) (X : St p l e R s m args below meth c n0 T h cells slots) {O n1 d C1 : String} {i kk : Nat} {ty : FieldType} {a : Addr} {v old : Value} (w : Jvm.Cond.fieldLink own i O n1 d ∈ ws) (F : Fld Z h a O n1 d old) (E : Exa Z h a C1) (L : Jvm.Cond.lays C1 O n1 d ∈ ws ∨ (Jvm.Cond.laysFinal C1 O n1 d ∈ ws ∧ own = O ∧ nm = "<init>")) (wi : Jvm.Cond.instantiable C1 kk ∈ ws)
    (hty : parseFieldDescriptor d = some ty) (hn : narrow ty v = v) (hf : fits ty v = true) (ha : n0 ≤ a) (hd : decode bytes pc = .ok (.putfield i, 3)) (K : ∀ T' h', St p l e R s m args below meth c n0 T' h' cells slots → Wr h h' a (Jvm.RoadKit.slotOf Z O n1 d) v → Fld Z h' a O n1 d v → Go p e below s n0 k n Q (T'.setTop (mkF m (pc + 3) Ls rest))) : Go p e below s n0 k n Q (T.setTop (mkF m pc Ls (v :: .ref a :: rest))) := by
  obtain ⟨e0, hz, locs, N, X⟩ := X
  obtain ⟨T', h', X', e', W, st⟩ := Jvm.RoadKit.putF X C.hx C.hZ C.hown (host := "") (Or.inl (C.w w)) Via.refl e0 F E (L.imp (fun q => C.w q) (fun q => ⟨C.w q.1, q.2.1, C.hnm.trans q.2.2⟩)) (C.w wi) hty hn hf (g := mkF m pc Ls (v :: .ref a :: rest)) rfl rfl (hb C.hby hd)
  exact Go.st st (K T' h' ⟨e', hz, _, Fr.snoc X' N ha, X'⟩ W (F.same W))
theorem Go.newO (C : Ctx p s m meth c Z a0 ws own nm bytes ml ret) (X : St p l e R s m args below meth c n0 T h cells slots) {C1 : String} {i kk : Nat} (w : Jvm.Cond.classLink own i C1 ∈ ws) (wi : Jvm.Cond.instantiable C1 kk ∈ ws) (wz : Jvm.Cond.initialized C1 ∈ ws) (hd : decode bytes pc = .ok (.new i, 3)) (hc : cells + 1 ≤ R.cells) (hl : slots + kk ≤ R.slots)
    (K : ∀ T' h' b, h.size = b → n0 ≤ b → St p l e R s m args below meth c n0 T' h' (cells + 1) (slots + kk) → Ext h h' → Exa Z h' b C1 → (∀ {O n1 d : String} {ty : FieldType}, (Jvm.Cond.lays C1 O n1 d ∈ ws ∨ Jvm.Cond.laysFinal C1 O n1 d ∈ ws) → parseFieldDescriptor d = some ty → Fld Z h' b O n1 d (defaultValue ty)) → Go p e below s n0 k n Q (T'.setTop (mkF m (pc + 3) Ls (.ref b :: stk)))) : Go p e below s n0 k n Q (T.setTop (mkF m pc Ls stk)) := by
  have hs := X.size
  obtain ⟨e0, hz, locs, N, X⟩ := X
  obtain ⟨T', h', X', e', E, E1, D, -, st⟩ := Jvm.RoadKit.newO X C.hx C.hZ C.hown (C.w w) (C.w wi) (C.w wz) e0 (g := mkF m pc Ls stk) rfl (hb C.hby hd) hc hl
  exact Go.st st (K T' h' _ rfl hs ⟨e', hz, _, N, X'⟩ E E1 (fun q r => D (q.imp (fun q => C.w q) (fun q => C.w q)) r))
theorem AR.of {cA : ClassId} {ty : FieldType} {z : Int32} {a : Addr} (F : Arr Z h a (newA cA ty z) ty) (q : ¬ z < 0) : AR Z h a ty (List.replicate z.toNatClampNeg (defaultValue ty)) :=
  ⟨_, F, by simp [newA], by rw [List.length_replicate]; exact (back32 q).2⟩
theorem Go.newP (C : Ctx p s m meth c Z a0 ws own nm bytes ml ret) (X : St p l e R s m args below meth c n0 T h cells slots) {aty : ArrayType} {z : Int32} {cap : Nat} (w : Jvm.Cond.arrayClass (newarray.typeOf aty) ∈ ws) (hd : decode bytes pc = .ok (.newarray aty, 2)) (hn : ¬ z < 0) (hcap : z.toNatClampNeg ≤ cap) (hb8 : cap * 8 ≤ 536870912) (hc : cells + 1 ≤ R.cells) (hl : slots + cap ≤ R.slots)
    (K : ∀ T' h' b, h.size = b → n0 ≤ b → St p l e R s m args below meth c n0 T' h' (cells + 1) (slots + cap) → Ext h h' → AR Z h' b (newarray.typeOf aty) (List.replicate z.toNatClampNeg (defaultValue (newarray.typeOf aty))) → Go p e below s n0 k n Q (T'.setTop (mkF m (pc + 2) Ls (.ref b :: rest)))) : Go p e below s n0 k n Q (T.setTop (mkF m pc Ls (.int z :: rest))) := by
  have hs := X.size
  obtain ⟨e0, hz, locs, N, X⟩ := X
  obtain ⟨T', h', cA, X', e', E, F, st⟩ := Jvm.RoadKit.newP X C.hx C.hZ (C.w w) e0 (g := mkF m pc Ls (.int z :: rest)) rfl (hb C.hby hd) rfl hn hcap hb8 hc hl
  exact Go.st st (K T' h' _ rfl hs ⟨e', hz, _, N, X'⟩ E (AR.of F hn))
theorem AR.lt {a : Addr} {ty : FieldType} {vs : List Value} (F : AR Z h a ty vs) : a < h.size := by obtain ⟨c, A, -⟩ := F; exact A.lt
theorem AR.ext {a : Addr} {ty : FieldType} {vs : List Value} (F : AR Z h a ty vs) (E : Ext h h') : AR Z h' a ty vs := by obtain ⟨c, A, r⟩ := F; exact ⟨c, A.ext E, r⟩
theorem AR.other {a b : Addr} {ty : FieldType} {vs : List Value} {sl : Nat} {v : Value} (F : AR Z h b ty vs) (W : Wr h h' a sl v) (q : b ≠ a) : AR Z h' b ty vs := by obtain ⟨c, A, r⟩ := F; exact ⟨c, A.other W q, r⟩
theorem AR.keep {a : Addr} {ty : FieldType} {vs : List Value} {us : List Addr} (F : AR Z h a ty vs) (K : Keep h h' us) (q : a ∉ us) : AR Z h' a ty vs := by obtain ⟨c, A, r⟩ := F; exact ⟨c, ⟨K.2.1 a c A.1 q, A.2⟩, r⟩
theorem AR.same {a : Addr} {ty : FieldType} {vs : List Value} {i : Nat} {v : Value} (F : AR Z h a ty vs) (W : Wr h h' a i v) : AR Z h' a ty (vs.set i v) := by
  obtain ⟨c, A, r, q⟩ := F
  refine ⟨_, A.same W, ?_, by rw [List.length_set]; exact q⟩
  simp [Cell.setSlot, r]
theorem AR.in {a : Addr} {ty : FieldType} {vs : List Value} {j : Int32} {c : Cell} (r : c.slots = vs.toArray) (hj : ¬ j < 0) (hl : j.toNatClampNeg < vs.length) : ¬ (j < 0 ∨ c.slots.size ≤ j.toNatClampNeg) := by
  rw [r]; simp; exact ⟨Int32.not_lt.mp hj, hl⟩
theorem AR.ne {a b : Addr} {ty : FieldType} {vs : List Value} (F : AR Z h a ty vs) (g : h.size = b) : a ≠ b := by subst g; exact Nat.ne_of_lt F.lt
theorem ltOf {vs : List Value} {i : Nat} {v : Value} (q : vs[i]? = some v) : i < vs.length := (List.getElem?_eq_some_iff.mp q).1
theorem Go.iaload (C : Ctx p s m meth c Z a0 ws own nm bytes ml ret) (X : St p l e R s m args below meth c n0 T h cells slots) {a : Addr} {vs : List Value} {j : Int32} {x : Int32} (F : AR Z h a .int vs) (hj : ¬ j < 0) (hv : vs[j.toNatClampNeg]? = some (.int x)) (hd : decode bytes pc = .ok (.iaload, 1)) (K : Go p e below s n0 k n Q (T.setTop (mkF m (pc + 1) Ls (.int x :: rest)))) : Go p e below s n0 k n Q (T.setTop (mkF m pc Ls (.int j :: .ref a :: rest))) := by
  obtain ⟨e0, hz, locs, N, X⟩ := X
  obtain ⟨cl, A, r, -⟩ := F
  exact Go.st (X.iaload C.hx (j := j) (v := .int x) (by rw [e0]; exact A.1) (State.isArrayOf_alike C.hZ.alike A.2.1) A.2.2 (AR.in (a := a) (ty := .int) r hj (ltOf hv)) (by rw [r]; simpa using hv) (g := mkF m pc Ls (.int j :: .ref a :: rest)) rfl rfl (hb C.hby hd)) K
theorem Go.laload (C : Ctx p s m meth c Z a0 ws own nm bytes ml ret) (X : St p l e R s m args below meth c n0 T h cells slots) {a : Addr} {vs : List Value} {j : Int32} {x : Int64} (F : AR Z h a .long vs) (hj : ¬ j < 0) (hv : vs[j.toNatClampNeg]? = some (.long x)) (hd : decode bytes pc = .ok (.laload, 1)) (K : Go p e below s n0 k n Q (T.setTop (mkF m (pc + 1) Ls (.long x :: rest)))) : Go p e below s n0 k n Q (T.setTop (mkF m pc Ls (.int j :: .ref a :: rest))) := by
  obtain ⟨e0, hz, locs, N, X⟩ := X
  obtain ⟨cl, A, r, -⟩ := F
  exact Go.st (X.laload C.hx (j := j) (v := .long x) (by rw [e0]; exact A.1) (State.isArrayOf_alike C.hZ.alike A.2.1) A.2.2 (AR.in (a := a) (ty := .long) r hj (ltOf hv)) (by rw [r]; simpa using hv) (g := mkF m pc Ls (.int j :: .ref a :: rest)) rfl rfl (hb C.hby hd)) K
theorem Go.baload (C : Ctx p s m meth c Z a0 ws own nm bytes ml ret) (X : St p l e R s m args below meth c n0 T h cells slots) {a : Addr} {vs : List Value} {j : Int32} {x : Int32} (F : AR Z h a .byte vs) (hj : ¬ j < 0) (hv : vs[j.toNatClampNeg]? = some (.int x)) (hd : decode bytes pc = .ok (.baload, 1)) (K : Go p e below s n0 k n Q (T.setTop (mkF m (pc + 1) Ls (.int x :: rest)))) : Go p e below s n0 k n Q (T.setTop (mkF m pc Ls (.int j :: .ref a :: rest))) := by
  obtain ⟨e0, hz, locs, N, X⟩ := X
  obtain ⟨cl, A, r, -⟩ := F
  exact Go.st (X.baloadBytes C.hx (j := j) (v := .int x) (by rw [e0]; exact A.1) (State.isArrayOf_alike C.hZ.alike A.2.1) A.2.2 (AR.in (a := a) (ty := .byte) r hj (ltOf hv)) (by rw [r]; simpa using hv) (g := mkF m pc Ls (.int j :: .ref a :: rest)) rfl rfl (hb C.hby hd)) K
theorem Go.aaload (C : Ctx p s m meth c Z a0 ws own nm bytes ml ret) (X : St p l e R s m args below meth c n0 T h cells slots) {a : Addr} {ty : FieldType} {vs : List Value} {j : Int32} {v : Value} (F : AR Z h a ty vs) (hty : ty.isReference = true) (hj : ¬ j < 0) (hv : vs[j.toNatClampNeg]? = some v) (hd : decode bytes pc = .ok (.aaload, 1)) (K : Go p e below s n0 k n Q (T.setTop (mkF m (pc + 1) Ls (v :: rest)))) : Go p e below s n0 k n Q (T.setTop (mkF m pc Ls (.int j :: .ref a :: rest))) := by
  obtain ⟨e0, hz, locs, N, X⟩ := X
  obtain ⟨cl, A, r, -⟩ := F
  exact Go.st (X.aaload C.hx (j := j) (v := v) (by rw [e0]; exact A.1) (State.isArrayOf_alike C.hZ.alike A.2.1) hty A.2.2 (AR.in (a := a) (ty := ty) r hj (ltOf hv)) (by rw [r]; simpa using hv) (g := mkF m pc Ls (.int j :: .ref a :: rest)) rfl rfl (hb C.hby hd)) K
theorem Go.alen (C : Ctx p s m meth c Z a0 ws own nm bytes ml ret) (X : St p l e R s m args below meth c n0 T h cells slots) {a : Addr} {ty : FieldType} {vs : List Value} {z : Int32} (F : AR Z h a ty vs) (hz : vs.length.toInt32 = z) (hd : decode bytes pc = .ok (.arraylength, 1)) (K : Go p e below s n0 k n Q (T.setTop (mkF m (pc + 1) Ls (.int z :: rest)))) : Go p e below s n0 k n Q (T.setTop (mkF m pc Ls (.ref a :: rest))) := by
  subst hz
  obtain ⟨e0, hz, locs, N, X⟩ := X
  obtain ⟨cl, A, r, -⟩ := F
  refine Go.st (X.arraylength C.hx (by rw [e0]; exact A.1) (State.isArrayOf_alike C.hZ.alike A.2.1) (g := mkF m pc Ls (.ref a :: rest)) rfl rfl (hb C.hby hd)) ?_
  rw [r]
  simpa using K
theorem Go.iastore (C : Ctx p s m meth c Z a0 ws own nm bytes ml ret) (X : St p l e R s m args below meth c n0 T h cells slots) {a : Addr} {vs : List Value} {j : Int32} {x : Int32} (F : AR Z h a .int vs) (hj : ¬ j < 0) (hl : j.toNatClampNeg < vs.length) (ha : n0 ≤ a) (hd : decode bytes pc = .ok (.iastore, 1)) (K : ∀ T' h', St p l e R s m args below meth c n0 T' h' cells slots → Wr h h' a j.toNatClampNeg (.int x) → AR Z h' a .int (vs.set j.toNatClampNeg (.int x)) → Go p e below s n0 k n Q (T'.setTop (mkF m (pc + 1) Ls rest))) : Go p e below s n0 k n Q (T.setTop (mkF m pc Ls (.int x :: .int j :: .ref a :: rest))) := by
  obtain ⟨e0, hz, locs, N, X⟩ := X
  have F0 := F
  obtain ⟨cl, A, r, -⟩ := F
  obtain ⟨T', h', X', e', W, st⟩ := Jvm.RoadKit.stI X C.hx C.hZ e0 A (j := j) (x := x) (AR.in (a := a) (ty := .int) r hj hl) (g := mkF m pc Ls (.int x :: .int j :: .ref a :: rest)) rfl rfl (hb C.hby hd)
  exact Go.st st (K T' h' ⟨e', hz, _, Fr.snoc X' N ha, X'⟩ W (F0.same W))
theorem Go.lastore (C : Ctx p s m meth c Z a0 ws own nm bytes ml ret) (X : St p l e R s m args below meth c n0 T h cells slots) {a : Addr} {vs : List Value} {j : Int32} {x : Int64} (F : AR Z h a .long vs) (hj : ¬ j < 0) (hl : j.toNatClampNeg < vs.length) (ha : n0 ≤ a) (hd : decode bytes pc = .ok (.lastore, 1)) (K : ∀ T' h', St p l e R s m args below meth c n0 T' h' cells slots → Wr h h' a j.toNatClampNeg (.long x) → AR Z h' a .long (vs.set j.toNatClampNeg (.long x)) → Go p e below s n0 k n Q (T'.setTop (mkF m (pc + 1) Ls rest))) : Go p e below s n0 k n Q (T.setTop (mkF m pc Ls (.long x :: .int j :: .ref a :: rest))) := by
  obtain ⟨e0, hz, locs, N, X⟩ := X
  have F0 := F
  obtain ⟨cl, A, r, -⟩ := F
  obtain ⟨T', h', X', e', W, st⟩ := Jvm.RoadKit.stJ X C.hx C.hZ e0 A (j := j) (x := x) (AR.in (a := a) (ty := .long) r hj hl) (g := mkF m pc Ls (.long x :: .int j :: .ref a :: rest)) rfl rfl (hb C.hby hd)
  exact Go.st st (K T' h' ⟨e', hz, _, Fr.snoc X' N ha, X'⟩ W (F0.same W))
theorem Go.bastore (C : Ctx p s m meth c Z a0 ws own nm bytes ml ret) (X : St p l e R s m args below meth c n0 T h cells slots) {a : Addr} {vs : List Value} {j : Int32} {x : Int32} (F : AR Z h a .byte vs) (hj : ¬ j < 0) (hl : j.toNatClampNeg < vs.length) (ha : n0 ≤ a) (hd : decode bytes pc = .ok (.bastore, 1)) (K : ∀ T' h', St p l e R s m args below meth c n0 T' h' cells slots → Wr h h' a j.toNatClampNeg (.int (nar .byte x)) → AR Z h' a .byte (vs.set j.toNatClampNeg (.int (nar .byte x))) → Go p e below s n0 k n Q (T'.setTop (mkF m (pc + 1) Ls rest))) : Go p e below s n0 k n Q (T.setTop (mkF m pc Ls (.int x :: .int j :: .ref a :: rest))) := by
  obtain ⟨e0, hz, locs, N, X⟩ := X
  have F0 := F
  obtain ⟨cl, A, r, -⟩ := F
  obtain ⟨T', h', X', e', W, st⟩ := Jvm.RoadKit.stB X C.hx C.hZ e0 A (j := j) (x := x) (AR.in (a := a) (ty := .byte) r hj hl) (g := mkF m pc Ls (.int x :: .int j :: .ref a :: rest)) rfl rfl (hb C.hby hd)
  exact Go.st st (K T' h' ⟨e', hz, _, Fr.snoc X' N ha, X'⟩ W (F0.same W))
theorem Con.back {y : MethodName} {rm : Room} {as : Array Value} {W : Nat} (H : Con l Z y bytes ml ret [] rm n0 as h Q) (hZ : Z.Warmed39 s.vm) (wc : (Jvm.Cond.code y bytes ml ret).before a0 Z = true) (wz : (Jvm.Cond.initialized y.cls).before a0 Z = true) (hf : rm.frames + 1 ≤ R.frames) (hl : W + (ml + 11) + rm.locals ≤ R.locals) :
    Back l R p e below s args y 3 W (fun A a => a = as ∧ A.U.heap = h ∧ A.cells + rm.cells ≤ R.cells ∧ A.slots + rm.slots ≤ R.slots)
      (fun A _ v B => ∃ L, (Q v B.U.heap ∧ Fr n0 L) ∧ B.locs = A.locs ++ L ∧ B.cells = A.cells + rm.cells ∧ B.slots = A.slots + rm.slots) :=
  backOf (Q := fun v h L => Q v h ∧ Fr n0 L) H hZ wc wz hf hl
theorem Go.callS (C : Ctx p s m meth c Z a0 ws own nm bytes ml ret) (X : St p l e R s m args below meth c n0 T h cells slots) {y : MethodName} {bytes' : ByteArray} {ml' : Nat} {ret' : Option FieldType} {rm : Room} {i W : Nat} {argsL : List Value} {Q' : Option Value → Heap → Prop} (w1 : Jvm.Cond.methodLink own i y ∈ ws) (w2 : Jvm.Cond.static y ∈ ws) (w3 : Jvm.Cond.initialized y.cls ∈ ws) (w4 : Jvm.Cond.code y bytes' ml' ret' ∈ ws) (hy : y.cls ≠ "java/lang/invoke/MethodHandle" ∧ y.cls ≠ "java/lang/invoke/VarHandle")
    (H : Con l Z y bytes' ml' ret' [] rm n0 argsL.toArray h Q') (hfr : rm.frames + 1 ≤ R.frames) (hlo : W + (ml' + 11) + rm.locals ≤ R.locals) (hsz : Ls.size = ml) (hlen : ∀ sig, parseMethodDescriptor y.desc = some sig → argsL.length = sig.parameters.length) (hW : (rest.map fun v => v.category).sum ≤ W) (hstk : stk = argsL.reverse ++ rest) (hd : decode bytes pc = .ok (.invokestatic i, 3)) (hce : cells + rm.cells ≤ R.cells) (hsl : slots + rm.slots ≤ R.slots) (K : ∀ T' h' v, St p l e R s m args below meth c n0 T' h' (cells + rm.cells) (slots + rm.slots) → Q' v h' → Go p e below s n0 k n Q (T'.setTop (mkF m (pc + 3) Ls (v.toList ++ rest)))) : Go p e below s n0 k n Q (T.setTop (mkF m pc Ls stk)) := by
  obtain ⟨e0, hz, locs, N, X⟩ := X
  obtain ⟨v, _, ⟨T', L', k', n'⟩, -, X', ⟨L, hQ, l1, y1, z1⟩, st⟩ := Jvm.LawKit.callS X C.hx (y := y) C.hown (mvT C.hZ (C.w w1)) (mvT C.hZ (C.w w2)) (mvT C.hZ (C.w w3)) (mvT C.hZ (C.w w4)) hy (H.back (W := W) C.hZ (C.w w4) (C.w w3) hfr hlo) (g := mkF m pc Ls stk) rfl (hsz.trans C.hml.symm) (argsL := argsL) (rest := rest) hlen hstk (by show 2 * 0 + _ ≤ _; omega) (hb C.hby hd) (fun _ _ => ⟨rfl, e0, hce, hsl⟩)
  dsimp only [Pt.U, Pt.locs, Pt.cells, Pt.slots] at X' l1 y1 z1 st hQ
  subst l1 y1 z1
  exact Go.st st (K T' _ v ⟨rfl, hz, _, N.app hQ.2, X'⟩ hQ.1)
theorem Go.callInit (C : Ctx p s m meth c Z a0 ws own nm bytes ml ret) (X : St p l e R s m args below meth c n0 T h cells slots) {y : MethodName} {bytes' : ByteArray} {ml' : Nat} {rm : Room} {i W : Nat} {argsL : List Value} {Q' : Option Value → Heap → Prop} {a : Addr} (hy1 : y.name = "<init>") (w1 : Jvm.Cond.methodLink own i y ∈ ws) (w2 : Jvm.Cond.instanceMethod y ∈ ws) (w3 : Jvm.Cond.initialized y.cls ∈ ws) (w4 : Jvm.Cond.code y bytes' ml' none ∈ ws) (hy : y.cls ≠ "java/lang/invoke/MethodHandle" ∧ y.cls ≠ "java/lang/invoke/VarHandle")
    (H : Con l Z y bytes' ml' none [] rm n0 (.ref a :: argsL).toArray h Q') (hfr : rm.frames + 1 ≤ R.frames) (hlo : W + (ml' + 11) + rm.locals ≤ R.locals) (hsz : Ls.size = ml) (hlen : ∀ sig, parseMethodDescriptor y.desc = some sig → argsL.length = sig.parameters.length) (hW : (rest.map fun v => v.category).sum ≤ W) (hstk : stk = argsL.reverse ++ .ref a :: rest) (hd : decode bytes pc = .ok (.invokespecial i, 3)) (hce : cells + rm.cells ≤ R.cells) (hsl : slots + rm.slots ≤ R.slots) (K : ∀ T' h' v, St p l e R s m args below meth c n0 T' h' (cells + rm.cells) (slots + rm.slots) → Q' v h' → Go p e below s n0 k n Q (T'.setTop (mkF m (pc + 3) Ls (v.toList ++ rest)))) : Go p e below s n0 k n Q (T.setTop (mkF m pc Ls stk)) := by
  obtain ⟨e0, hz, locs, N, X⟩ := X
  obtain ⟨v, _, ⟨T', L', k', n'⟩, -, X', ⟨L, hQ, l1, y1, z1⟩, st⟩ := X.specialBack C.hx (y := y) hy1 C.hown (mvT C.hZ (C.w w1)) (mvT C.hZ (C.w w2)) (mvT C.hZ (C.w w4)) hy (H.back (W := W) C.hZ (C.w w4) (C.w w3) hfr hlo) (g := mkF m pc Ls stk) rfl (hsz.trans C.hml.symm) (Steps.refl _) (a := a) (argsL := argsL) (rest := rest) hlen hstk (by show 2 * 0 + _ ≤ _; omega) (hb C.hby hd) (fun _ _ => ⟨rfl, e0, hce, hsl⟩)
  dsimp only [Pt.U, Pt.locs, Pt.cells, Pt.slots] at X' l1 y1 z1 st hQ
  subst l1 y1 z1
  exact Go.tr st (K T' _ v ⟨rfl, hz, _, N.app hQ.2, X'⟩ hQ.1)
theorem Go.callV (C : Ctx p s m meth c Z a0 ws own nm bytes ml ret) (X : St p l e R s m args below meth c n0 T h cells slots) {y : MethodName} {bytes' : ByteArray} {ml' : Nat} {ret' : Option FieldType} {rm : Room} {i W : Nat} {argsL : List Value} {Q' : Option Value → Heap → Prop} {a : Addr} {C1 : String} (E : Exa Z h a C1) (w1 : Jvm.Cond.methodLink own i y ∈ ws) (w2 : Jvm.Cond.declares y ∈ ws) (w5 : Jvm.Cond.selects C1 y y ∈ ws) (w6 : Jvm.Cond.instanceMethod y ∈ ws) (w3 : Jvm.Cond.initialized y.cls ∈ ws) (w4 : Jvm.Cond.code y bytes' ml' ret' ∈ ws) (hy : y.cls ≠ "java/lang/invoke/MethodHandle" ∧ y.cls ≠ "java/lang/invoke/VarHandle") (hC1 : C1 = y.cls)
    (H : Con l Z y bytes' ml' ret' [] rm n0 (.ref a :: argsL).toArray h Q') (hfr : rm.frames + 1 ≤ R.frames) (hlo : W + (ml' + 11) + rm.locals ≤ R.locals) (hsz : Ls.size = ml) (hlen : ∀ sig, parseMethodDescriptor y.desc = some sig → argsL.length = sig.parameters.length) (hW : (rest.map fun v => v.category).sum ≤ W) (hstk : stk = argsL.reverse ++ .ref a :: rest) (hd : decode bytes pc = .ok (.invokevirtual i, 3)) (hce : cells + rm.cells ≤ R.cells) (hsl : slots + rm.slots ≤ R.slots) (K : ∀ T' h' v, St p l e R s m args below meth c n0 T' h' (cells + rm.cells) (slots + rm.slots) → Q' v h' → Go p e below s n0 k n Q (T'.setTop (mkF m (pc + 3) Ls (v.toList ++ rest)))) : Go p e below s n0 k n Q (T.setTop (mkF m pc Ls stk)) := by
  subst hC1
  obtain ⟨e0, hz, locs, N, X⟩ := X
  obtain ⟨cq, kq, qa, qb, qc⟩ := isOf (T := T) C.hZ e0 E
  obtain ⟨v, _, ⟨T', L', k', n'⟩, -, X', ⟨L, hQ, l1, y1, z1⟩, st⟩ := X.virtualBack C.hx (y := y) (z := y) C.hown (mvT C.hZ (C.w w1)) (mvT C.hZ (C.w w2)) (notFace_of_selects (args := #[]) (mvT C.hZ (C.w w5))) (mvT C.hZ (C.w w5)) (mvT C.hZ (C.w w6)) hy (H.back (W := W) C.hZ (C.w w4) (C.w w3) hfr hlo) qa qc (g := mkF m pc Ls stk) rfl (hsz.trans C.hml.symm) (Steps.refl _) (argsL := argsL) (rest := rest) hlen hstk (by show 2 * 0 + _ ≤ _; omega) (hb C.hby hd) (fun _ _ => ⟨rfl, e0, hce, hsl⟩)
  dsimp only [Pt.U, Pt.locs, Pt.cells, Pt.slots] at X' l1 y1 z1 st hQ
  subst l1 y1 z1
  exact Go.tr st (K T' _ v ⟨rfl, hz, _, N.app hQ.2, X'⟩ hQ.1)
theorem Go.initO (C : Ctx p s m meth c Z a0 ws own nm bytes ml ret) (X : St p l e R s m args below meth c n0 T h cells slots) {i W : Nat} {a : Addr} (w1 : Jvm.Cond.methodLink own i Lib.objectInit ∈ ws) (w2 : Jvm.Cond.instanceMethod Lib.objectInit ∈ ws) (w3 : Jvm.Cond.code Lib.objectInit ⟨#[0xb1]⟩ 1 none ∈ ws) (hsz : Ls.size = ml) (hd : decode bytes pc = .ok (.invokespecial i, 3)) (hf : 1 ≤ R.frames) (hW : (rest.map fun v => v.category).sum ≤ W) (hl : W + 12 ≤ R.locals) (K : ∀ T', St p l e R s m args below meth c n0 T' h cells slots → Go p e below s n0 k n Q (T'.setTop (mkF m (pc + 3) Ls rest))) : Go p e below s n0 k n Q (T.setTop (mkF m pc Ls (.ref a :: rest))) := by
  obtain ⟨e0, hz, locs, N, X⟩ := X
  obtain ⟨T', X', e', st⟩ := Jvm.RoadKit.initO X C.hx C.hZ C.hown (C.w w1) (C.w w2) (C.w w3) e0 (g := mkF m pc Ls (.ref a :: rest)) rfl (hsz.trans C.hml.symm) rfl (hb C.hby hd) hf (W := W) (by show 2 * 0 + _ ≤ _; omega) hl
  exact Go.st st (K T' ⟨e', hz, locs, N, X'⟩)
theorem Go.ldcI (C : Ctx p s m meth c Z a0 ws own nm bytes ml ret) (X : St p l e R s m args below meth c n0 T h cells slots) {i : Nat} {x : Int32} (w : Jvm.Cond.constant own i x ∈ ws) (hd : decode bytes pc = .ok (.ldc i, 2)) (K : Go p e below s n0 k n Q (T.setTop (mkF m (pc + 2) Ls (.int x :: stk)))) : Go p e below s n0 k n Q (T.setTop (mkF m pc Ls stk)) := by
  obtain ⟨e0, hz, locs, N, X⟩ := X
  exact Go.st (fun _ => X.ldcI (g := mkF m pc Ls stk) C.hx C.hown (mvT C.hZ (C.w w)) rfl (hb C.hby hd)) K
theorem Go.ldcW (C : Ctx p s m meth c Z a0 ws own nm bytes ml ret) (X : St p l e R s m args below meth c n0 T h cells slots) {i : Nat} {x : Int32} (w : Jvm.Cond.constant own i x ∈ ws) (hd : decode bytes pc = .ok (.ldc_w i, 3)) (K : Go p e below s n0 k n Q (T.setTop (mkF m (pc + 3) Ls (.int x :: stk)))) : Go p e below s n0 k n Q (T.setTop (mkF m pc Ls stk)) := by
  obtain ⟨e0, hz, locs, N, X⟩ := X
  exact Go.st (fun _ => X.ldcWI (g := mkF m pc Ls stk) C.hx C.hown (mvT C.hZ (C.w w)) rfl (hb C.hby hd)) K
theorem Go.ldcJ (C : Ctx p s m meth c Z a0 ws own nm bytes ml ret) (X : St p l e R s m args below meth c n0 T h cells slots) {i : Nat} {x : Int64} (w : Jvm.Cond.constantLong own i x ∈ ws) (hd : decode bytes pc = .ok (.ldc2_w i, 3)) (K : Go p e below s n0 k n Q (T.setTop (mkF m (pc + 3) Ls (.long x :: stk)))) : Go p e below s n0 k n Q (T.setTop (mkF m pc Ls stk)) := by
  obtain ⟨e0, hz, locs, N, X⟩ := X
  exact Go.st (fun _ => X.ldc2J (g := mkF m pc Ls stk) C.hx C.hown (mvT C.hZ (C.w w)) rfl (hb C.hby hd)) K
theorem Go.irem (C : Ctx p s m meth c Z a0 ws own nm bytes ml ret) (X : St p l e R s m args below meth c n0 T h cells slots) {x y : Int32} (hy : y ≠ 0) (hd : decode bytes pc = .ok (.irem, 1)) (K : Go p e below s n0 k n Q (T.setTop (mkF m (pc + 1) Ls (.int (x % y) :: rest)))) : Go p e below s n0 k n Q (T.setTop (mkF m pc Ls (.int y :: .int x :: rest))) := by
  obtain ⟨e0, hz, locs, N, X⟩ := X
  exact Go.st (fun _ => Jvm.RoadKit.iremM (g := mkF m pc Ls (.int y :: .int x :: rest)) X C.hx rfl (hb C.hby hd) rfl hy) K
theorem Go.lrem (C : Ctx p s m meth c Z a0 ws own nm bytes ml ret) (X : St p l e R s m args below meth c n0 T h cells slots) {x y : Int64} (hy : y ≠ 0) (hd : decode bytes pc = .ok (.lrem, 1)) (K : Go p e below s n0 k n Q (T.setTop (mkF m (pc + 1) Ls (.long (x % y) :: rest)))) : Go p e below s n0 k n Q (T.setTop (mkF m pc Ls (.long y :: .long x :: rest))) := by
  refine Go.st (fun _ => XS.lrem (g := mkF m pc Ls (.long y :: .long x :: rest)) X.here C.hx rfl (hb C.hby hd) rfl hy) ?_
  rw [lrem_mod]
  exact K
theorem Go.dupX2 (C : Ctx p s m meth c Z a0 ws own nm bytes ml ret) (X : St p l e R s m args below meth c n0 T h cells slots) {x y z : Value} (h1 : x.category = 1) (h2 : y.category = 1) (h3 : z.category = 1) (hd : decode bytes pc = .ok (.dup_x2, 1)) (K : Go p e below s n0 k n Q (T.setTop (mkF m (pc + 1) Ls (x :: y :: z :: x :: rest)))) : Go p e below s n0 k n Q (T.setTop (mkF m pc Ls (x :: y :: z :: rest))) := by
  refine Go.st (fun t hr => ?_) K
  have hx := C.hx
  have hd' := hb C.hby hd
  jvm_step X.here [X.here.top, hx, hd', h1, h2, h3]
  exact hr
theorem eqI_v {args : Array Value} {first s : State} {o : Option Outcome} {idx : List Nat} {t : Term} {z : Int32} (q : (Jvm.Cond.eq t (Term.int z)).value args first o s idx = some true) : t.eval args first o idx s = some (.int z) := by
  obtain ⟨x, y, ha, hb, k1, k2⟩ := cmp_v (Or.inl q)
  have hy : y = .int z := by
    have r := Term.int_eval (args := args) (first := first) (o := o) (idx := idx) (s := s) z
    rw [r] at hb; exact (Option.some.inj hb).symm
  subst hy
  obtain ⟨u, rfl⟩ := k2
  rw [ha, gotT (Cond.eq_ints ha hb) q]
theorem fieldNe {args : Array Value} {first s : State} {o : Option Outcome} {idx : List Nat} {t t' : Term} {C f d : String} {a b : Addr} {z z' : Int32} (h1 : t.eval args first o idx s = some (.ref a)) (h2 : t'.eval args first o idx s = some (.ref b)) (q1 : (Jvm.Cond.eq (Term.field t C f d) (Term.int z)).value args first o s idx = some true) (q2 : (Jvm.Cond.eq (Term.field t' C f d) (Term.int z')).value args first o s idx = some true) (hz : z ≠ z') : a ≠ b := by
  intro r; subst r
  have e1 := eqI_v q1; have e2 := eqI_v q2
  rw [fld_at h1] at e1; rw [fld_at h2] at e2
  rw [e1] at e2
  cases e2; exact hz rfl
/-- an array whose elements are known and that may be cloned -/
def AF (Z : State) (h : Heap) (a : Addr) (ty : FieldType) (vs : List Value) : Prop := ∃ c : Cell, Arr Z h a c ty ∧ c.slots = vs.toArray ∧ vs.length < 2 ^ 31 ∧ FitC Z c
theorem AF.ar {a : Addr} {ty : FieldType} {vs : List Value} (F : AF Z h a ty vs) : AR Z h a ty vs := by obtain ⟨c, A, r, q, -⟩ := F; exact ⟨c, A, r, q⟩
theorem Go.clone (C : Ctx p s m meth c Z a0 ws own nm bytes ml ret) (X : St p l e R s m args below meth c n0 T h cells slots) {ad : String} {i W cap : Nat} {a : Addr} {ty : FieldType} {vs : List Value} (w1 : Jvm.Cond.methodLink own i ⟨ad, "clone", "()Ljava/lang/Object;"⟩ ∈ ws) (w2 : Jvm.Cond.sameMethod ad "java/lang/Object" "clone" "()Ljava/lang/Object;" ∈ ws) (w3 : Jvm.Cond.native ⟨"java/lang/Object", "clone", "()Ljava/lang/Object;"⟩ ∈ ws) (w4 : Jvm.Cond.instanceMethod ⟨"java/lang/Object", "clone", "()Ljava/lang/Object;"⟩ ∈ ws)
    (w5 : Jvm.Cond.selects ad ⟨ad, "clone", "()Ljava/lang/Object;"⟩ ⟨"java/lang/Object", "clone", "()Ljava/lang/Object;"⟩ ∈ ws) (w6 : Jvm.Cond.castable ad "java/lang/Cloneable" ∈ ws) (F : AF Z h a ty vs) (E : Exa Z h a ad) (hsz : Ls.size = ml) (hd : decode bytes pc = .ok (.invokevirtual i, 3)) (hf : 1 ≤ R.frames) (hW : (rest.map fun v => v.category).sum ≤ W) (hl : W + 14 ≤ R.locals) (hcap : vs.length ≤ cap) (hc : cells + 1 ≤ R.cells) (hsl : slots + cap ≤ R.slots)
    (K : ∀ T' h' b, h.size = b → n0 ≤ b → St p l e R s m args below meth c n0 T' h' (cells + 1) (slots + cap) → Ext h h' → AR Z h' b ty vs → Exa Z h' b ad → Go p e below s n0 k n Q (T'.setTop (mkF m (pc + 3) Ls (.ref b :: rest)))) : Go p e below s n0 k n Q (T.setTop (mkF m pc Ls (.ref a :: rest))) := by
  have hs := X.size
  obtain ⟨e0, hz, locs, N, X⟩ := X
  obtain ⟨cl, A, r, q, FC⟩ := F
  obtain ⟨T', h', X', e', Ex, A', E', st⟩ := Jvm.RoadKit.cloneA X C.hx C.hZ C.hown (C.w w1) (C.w w2) (C.w w3) (C.w w4) (C.w w5) (C.w w6) e0 A E FC (g := mkF m pc Ls (.ref a :: rest)) rfl (hsz.trans C.hml.symm) rfl (hb C.hby hd) hf (W := W) (cap := cap) (by show 2 * 0 + _ ≤ _; omega) hl (by rw [r]; simpa using hcap) hc hsl
  exact Go.st st (K T' h' _ rfl hs ⟨e', hz, _, N, X'⟩ Ex ⟨_, A', r, q⟩ E')
theorem Go.cast (C : Ctx p s m meth c Z a0 ws own nm bytes ml ret) (X : St p l e R s m args below meth c n0 T h cells slots) {i : Nat} {K1 : String} {a : Addr} (w : Jvm.Cond.classLink own i K1 ∈ ws) (F : Ins Z h a K1 true) (hd : decode bytes pc = .ok (.checkcast i, 3)) (K : ∀ T', St p l e R s m args below meth c n0 T' h cells slots → Go p e below s n0 k n Q (T'.setTop (mkF m (pc + 3) Ls (.ref a :: rest)))) : Go p e below s n0 k n Q (T.setTop (mkF m pc Ls (.ref a :: rest))) := by
  obtain ⟨e0, hz, locs, N, X⟩ := X
  obtain ⟨T', X', e', st⟩ := Jvm.RoadKit.castY X C.hx C.hZ C.hown (C.w w) e0 F (g := mkF m pc Ls (.ref a :: rest)) rfl rfl (hb C.hby hd)
  exact Go.st st (K T' ⟨e', hz, locs, N, X'⟩)
theorem elemRef {args : Array Value} {s : State} {t t' : Term} {a x : Addr} {cl : Cell} {j : Int32} (q : (Jvm.Cond.eq (Term.elem t (Term.int j)) t').value args s none s [] = some true) (ht : t.eval args s none [] s = some (.ref a)) (ht' : t'.eval args s none [] s = some (.ref x)) (hc : s.heap[a]? = some cl) : cl.slots[j.toNatClampNeg]? = some (.ref x) := by
  obtain ⟨u, v, ha, hb, k1, k2⟩ := cmp_v (Or.inl q)
  rw [ht'] at hb
  cases hb
  have e := gotT (eq_R ha ht' k2.2 rfl) q
  subst e
  exact (elem_in ha ht (Term.int_eval j) hc).2
theorem fldI {args : Array Value} {s : State} {t : Term} {a : Addr} {C f d : String} {z : Int32} (q : (Jvm.Cond.eq (Term.field t C f d) (Term.int z)).value args s none s [] = some true) (ht : t.eval args s none [] s = some (.ref a)) : Fld s s.heap a C f d (.int z) := by
  have e := eqI_v q
  rw [fld_at ht] at e
  exact Fld.start e
theorem lenOf' {args : Array Value} {s : State} {t : Term} {a : Addr} {cl : Cell} {ty : FieldType} {z : Int32} (q : (Jvm.Cond.eq (Term.length t) (Term.int z)).value args s none s [] = some true) (ht : t.eval args s none [] s = some (.ref a)) (A : Arr s s.heap a cl ty) : cl.slots.size.toInt32 = z ∧ cl.slots.size < 2 ^ 31 := by
  obtain ⟨b, cell, h1, h2, h3, h4⟩ := Jvm.Lib.length_spec (eqI_v q)
  rw [ht] at h1
  cases h1
  rw [A.fin (Vm.Alike.refl _)] at h2
  cases h2
  exact ⟨(Value.int.inj h4).symm, h3⟩
theorem Go.newPE (C : Ctx p s m meth c Z a0 ws own nm bytes ml ret) (X : St p l e R s m args below meth c n0 T h cells slots) {aty : ArrayType} {z : Int32} {cap : Nat} {ad : String} (w : Jvm.Cond.arrayClass (newarray.typeOf aty) ∈ ws) (had : "[" ++ (newarray.typeOf aty).toString = ad) (hd : decode bytes pc = .ok (.newarray aty, 2)) (hn : ¬ z < 0) (hcap : z.toNatClampNeg ≤ cap) (hb8 : cap * 8 ≤ 536870912) (hc : cells + 1 ≤ R.cells) (hl : slots + cap ≤ R.slots)
    (K : ∀ T' h' b, h.size = b → n0 ≤ b → St p l e R s m args below meth c n0 T' h' (cells + 1) (slots + cap) → Ext h h' → AR Z h' b (newarray.typeOf aty) (List.replicate z.toNatClampNeg (defaultValue (newarray.typeOf aty))) → Exa Z h' b ad → Go p e below s n0 k n Q (T'.setTop (mkF m (pc + 2) Ls (.ref b :: rest)))) : Go p e below s n0 k n Q (T.setTop (mkF m pc Ls (.int z :: rest))) := by
  have hs := X.size
  obtain ⟨e0, hz, locs, N, X⟩ := X
  obtain ⟨T', h', cA, X', e', E, F, EX, st⟩ := Jvm.RoadKit.newPE X C.hx C.hZ (C.w w) e0 (g := mkF m pc Ls (.int z :: rest)) rfl (hb C.hby hd) rfl hn hcap hb8 hc hl had
  exact Go.st st (K T' h' _ rfl hs ⟨e', hz, _, N, X'⟩ E (AR.of F hn) EX)
theorem AF.zero {a : Addr} {N : Nat} (F : AR Z h a .byte (List.replicate N (.int (0 : Int32)))) : AF Z h a .byte (List.replicate N (.int (0 : Int32))) := by
  obtain ⟨c, A, r, q⟩ := F
  refine ⟨c, A, r, q, fitC_of A fun i hi v hv => ?_⟩
  rw [r, List.getElem?_toArray, List.getElem?_replicate] at hv
  split at hv
  · cases hv; rfl
  · cases hv
theorem AR.arv0 {a : Addr} {N : Nat} (F : AR Z h a .byte (List.replicate N (.int (0 : Int32)))) : ∃ k, Arv Z h a k .byte N.toInt32 (List.replicate N (.int (0 : Int32))) (.int (0 : Int32)) := by
  obtain ⟨c, A, r, q⟩ := F
  rw [List.length_replicate] at q
  have sz : c.slots.size = N := by rw [r]; simp
  have cN : N.toInt32.toNatClampNeg = N := by simp only [Int32.toNatClampNeg, len_toInt q]; rfl
  have g0 : ∀ i, (List.replicate N (Value.int (0 : Int32))).getD i (.int (0 : Int32)) = .int (0 : Int32) := fun i => by
    rw [List.getD_eq_getElem?_getD, List.getElem?_replicate]; split <;> rfl
  refine ⟨c.cls, c, A, rfl, by rw [sz, cN], ?_, fun i hi => ?_, fun i _ => by rw [g0]; rfl⟩
  · rw [Int32.lt_iff_toInt_lt, len_toInt q]
    have h0 : (0 : Int32).toInt = 0 := rfl
    omega
  · rw [g0, r]
    rw [sz] at hi
    simp [List.getElem?_replicate, hi]
theorem Arv.ar0 {a : Addr} {k : ClassId} {N : Nat} {vs : List Value} (hN : N < 2 ^ 31) (F : Arv Z h a k .byte N.toInt32 vs (.int (0 : Int32))) (hv : ∀ i, vs.getD i (.int (0 : Int32)) = .int (0 : Int32)) : AR Z h a .byte (List.replicate N (.int (0 : Int32))) := by
  obtain ⟨c, A, -, S, -, H, -⟩ := F
  have cN : N.toInt32.toNatClampNeg = N := by simp only [Int32.toNatClampNeg, len_toInt hN]; rfl
  rw [cN] at S
  refine ⟨c, A, ?_, by rw [List.length_replicate]; exact hN⟩
  apply Array.ext_getElem?
  intro i
  by_cases q : i < N
  · rw [H i (by omega), hv]; simp [List.getElem?_replicate, q]
  · rw [Array.getElem?_eq_none (by omega), Array.getElem?_eq_none (by simp; omega)]
theorem Go.acopy0 (C : Ctx p s m meth c Z a0 ws own nm bytes ml ret) (X : St p l e R s m args below meth c n0 T h cells slots) {i W : Nat} {a b : Addr} {n1 n2 : Nat} {nn : Int32} (w1 : Jvm.Cond.methodLink own i Jvm.Stand.acN ∈ ws) (w2 : Jvm.Cond.native Jvm.Stand.acN ∈ ws) (w3 : Jvm.Cond.static Jvm.Stand.acN ∈ ws) (w4 : Jvm.Cond.initialized "java/lang/System" ∈ ws) (F1 : AR Z h a .byte (List.replicate n1 (.int (0 : Int32)))) (F2 : AR Z h b .byte (List.replicate n2 (.int (0 : Int32)))) (hnn : ¬ nn < 0) (h1 : nn.toNatClampNeg ≤ n1) (h2 : nn.toNatClampNeg ≤ n2) (gb : n0 ≤ b) (hsz : Ls.size = ml)
    (hd : decode bytes pc = .ok (.invokestatic i, 3)) (hf : 1 ≤ R.frames) (hW : (rest.map fun v => v.category).sum ≤ W) (hlo : W + (nativeFrameWords "java/lang/System" "arraycopy" 5 + 11) ≤ R.locals)
    (K : ∀ T' h', St p l e R s m args below meth c n0 T' h' cells slots → Keep h h' [b] → AR Z h' b .byte (List.replicate n2 (.int (0 : Int32))) → Go p e below s n0 k n Q (T'.setTop (mkF m (pc + 3) Ls rest))) : Go p e below s n0 k n Q (T.setTop (mkF m pc Ls (.int nn :: .int 0 :: .ref b :: .int 0 :: .ref a :: rest))) := by
  obtain ⟨e0, hz, locs, N, X⟩ := X
  obtain ⟨k1, V1⟩ := F1.arv0
  obtain ⟨k2, V2⟩ := F2.arv0
  have q1 : n1 < 2 ^ 31 := by obtain ⟨_, _, _, q⟩ := F1; rw [List.length_replicate] at q; exact q
  have q2 : n2 < 2 ^ 31 := by obtain ⟨_, _, _, q⟩ := F2; rw [List.length_replicate] at q; exact q
  have c1 : n1.toInt32.toNatClampNeg = n1 := by simp only [Int32.toNatClampNeg, len_toInt q1]; rfl
  have c2 : n2.toInt32.toNatClampNeg = n2 := by simp only [Int32.toNatClampNeg, len_toInt q2]; rfl
  have z0 : (0 : Int32).toNatClampNeg = 0 := rfl
  obtain ⟨T', h', L, X', e', N', KK, V', st⟩ := cpA X C.hx C.hZ C.hown (C.w w1) (C.w w2) (C.w w3) (C.w w4) e0 V1 V2 (sp := 0) (dp := 0) (nn := nn) (Or.inl ⟨rfl, rfl⟩) (by decide) (by decide) hnn (by rw [z0, c1]; omega) (by rw [z0, c2]; omega) rfl (by rw [z0, List.length_replicate]; omega) N gb (g := mkF m pc Ls (.int nn :: .int 0 :: .ref b :: .int 0 :: .ref a :: rest)) rfl (hsz.trans C.hml.symm) rfl (hb C.hby hd) hf (W := W) (by show 2 * 0 + _ ≤ _; omega) hlo
  refine Go.st st (K T' h' ⟨e', hz, L, N', X'⟩ KK (Arv.ar0 q2 V' fun j => ?_))
  have g0 : ∀ (vs : List Value), (∀ x ∈ vs, x = .int (0 : Int32)) → vs.getD j (.int (0 : Int32)) = .int (0 : Int32) := fun vs hv => by
    rw [List.getD_eq_getElem?_getD]
    cases hq : vs[j]? with
    | none => rfl
    | some x => exact hv x (List.mem_of_getElem? hq)
  refine g0 _ fun x hx => ?_
  rcases List.mem_append.mp hx with hx | hx
  · rcases List.mem_append.mp hx with hx | hx
    · rw [z0] at hx; simp at hx
    · obtain ⟨y, -, rfl⟩ := List.mem_map.mp hx
      rw [List.getD_eq_getElem?_getD, List.getElem?_replicate]; split <;> rfl
  · exact (List.mem_replicate.mp (List.mem_of_mem_drop hx)).2
end One
end Jvm.OwnGo
namespace Jvm.Pilot.@@N@@
open Jvm Jvm.ClassFile Sem Op Lib Jvm.Free Jvm.Stand Jvm.LawKit Jvm.RoadKit Bundle Jvm.OwnGo Jvm.Pilot.@@N@@.Jvm.D
theorem d1_0 : decode prog_35_method_3_code 0 = .ok (.iconst 4, 1) := by decide +kernel
theorem d1_1 : decode prog_35_method_3_code 1 = .ok (.iload_n 0, 1) := by decide +kernel
theorem d1_2 : decode prog_35_method_3_code 2 = .ok (.bipush 64, 2) := by decide +kernel
theorem d1_4 : decode prog_35_method_3_code 4 = .ok (.iadd, 1) := by decide +kernel
theorem d1_5 : decode prog_35_method_3_code 5 = .ok (.iconst 1, 1) := by decide +kernel
theorem d1_6 : decode prog_35_method_3_code 6 = .ok (.isub, 1) := by decide +kernel
theorem d1_7 : decode prog_35_method_3_code 7 = .ok (.bipush 64, 2) := by decide +kernel
theorem d1_9 : decode prog_35_method_3_code 9 = .ok (.idiv, 1) := by decide +kernel
theorem d1_10 : decode prog_35_method_3_code 10 = .ok (.imul, 1) := by decide +kernel
theorem d1_11 : decode prog_35_method_3_code 11 = .ok (.newarray .long, 2) := by decide +kernel
theorem d1_13 : decode prog_35_method_3_code 13 = .ok (.astore_n 1, 1) := by decide +kernel
theorem d1_14 : decode prog_35_method_3_code 14 = .ok (.iconst 0, 1) := by decide +kernel
theorem d1_15 : decode prog_35_method_3_code 15 = .ok (.istore_n 2, 1) := by decide +kernel
theorem d1_16 : decode prog_35_method_3_code 16 = .ok (.iload_n 2, 1) := by decide +kernel
theorem d1_17 : decode prog_35_method_3_code 17 = .ok (.aload_n 1, 1) := by decide +kernel
theorem d1_18 : decode prog_35_method_3_code 18 = .ok (.arraylength, 1) := by decide +kernel
theorem d1_19 : decode prog_35_method_3_code 19 = .ok (.if_icmp .ge 47, 3) := by decide +kernel
theorem d1_22 : decode prog_35_method_3_code 22 = .ok (.iload_n 2, 1) := by decide +kernel
theorem d1_23 : decode prog_35_method_3_code 23 = .ok (.i2l, 1) := by decide +kernel
theorem d1_24 : decode prog_35_method_3_code 24 = .ok (.ldc2_w 81, 3) := by decide +kernel
theorem d1_27 : decode prog_35_method_3_code 27 = .ok (.ladd, 1) := by decide +kernel
theorem d1_28 : decode prog_35_method_3_code 28 = .ok (.lstore_n 3, 1) := by decide +kernel
theorem d1_29 : decode prog_35_method_3_code 29 = .ok (.lload_n 3, 1) := by decide +kernel
theorem d1_30 : decode prog_35_method_3_code 30 = .ok (.lload_n 3, 1) := by decide +kernel
theorem d1_31 : decode prog_35_method_3_code 31 = .ok (.bipush 30, 2) := by decide +kernel
theorem d1_33 : decode prog_35_method_3_code 33 = .ok (.lushr, 1) := by decide +kernel
theorem d1_34 : decode prog_35_method_3_code 34 = .ok (.lxor, 1) := by decide +kernel
theorem d1_35 : decode prog_35_method_3_code 35 = .ok (.ldc2_w 83, 3) := by decide +kernel
theorem d1_38 : decode prog_35_method_3_code 38 = .ok (.lmul, 1) := by decide +kernel
theorem d1_39 : decode prog_35_method_3_code 39 = .ok (.lstore_n 3, 1) := by decide +kernel
theorem d1_40 : decode prog_35_method_3_code 40 = .ok (.lload_n 3, 1) := by decide +kernel
theorem d1_41 : decode prog_35_method_3_code 41 = .ok (.lload_n 3, 1) := by decide +kernel
theorem d1_42 : decode prog_35_method_3_code 42 = .ok (.bipush 27, 2) := by decide +kernel
theorem d1_44 : decode prog_35_method_3_code 44 = .ok (.lushr, 1) := by decide +kernel
theorem d1_45 : decode prog_35_method_3_code 45 = .ok (.lxor, 1) := by decide +kernel
theorem d1_46 : decode prog_35_method_3_code 46 = .ok (.ldc2_w 85, 3) := by decide +kernel
theorem d1_49 : decode prog_35_method_3_code 49 = .ok (.lmul, 1) := by decide +kernel
theorem d1_50 : decode prog_35_method_3_code 50 = .ok (.lstore_n 3, 1) := by decide +kernel
theorem d1_51 : decode prog_35_method_3_code 51 = .ok (.aload_n 1, 1) := by decide +kernel
theorem d1_52 : decode prog_35_method_3_code 52 = .ok (.iload_n 2, 1) := by decide +kernel
theorem d1_53 : decode prog_35_method_3_code 53 = .ok (.lload_n 3, 1) := by decide +kernel
theorem d1_54 : decode prog_35_method_3_code 54 = .ok (.lload_n 3, 1) := by decide +kernel
theorem d1_55 : decode prog_35_method_3_code 55 = .ok (.bipush 31, 2) := by decide +kernel
theorem d1_57 : decode prog_35_method_3_code 57 = .ok (.lushr, 1) := by decide +kernel
theorem d1_58 : decode prog_35_method_3_code 58 = .ok (.lxor, 1) := by decide +kernel
theorem d1_59 : decode prog_35_method_3_code 59 = .ok (.lastore, 1) := by decide +kernel
theorem d1_60 : decode prog_35_method_3_code 60 = .ok (.iinc 2 1, 3) := by decide +kernel
theorem d1_63 : decode prog_35_method_3_code 63 = .ok (.goto (-47), 3) := by decide +kernel
theorem d1_66 : decode prog_35_method_3_code 66 = .ok (.aload_n 1, 1) := by decide +kernel
theorem d1_67 : decode prog_35_method_3_code 67 = .ok (.areturn, 1) := by decide +kernel
theorem pf_1 : plainFor (⟨"com/example/lattis/lattis/explicit/Cuts", "keys", "(I)[J"⟩ : MethodName) = true := plainFor_of_name (by first | (simp [plainName, overriddenIn]; done) | decide +kernel)
theorem pd_1 : parseMethodDescriptor "(I)[J" = some ⟨[.int], some (.array .long)⟩ := by decide +kernel
def m1 (i : Int32) : Int64 := i.toInt64 + (-7046029254386353131 : Int64)
def m2 (z : Int64) : Int64 := (z ^^^ lus z (30 : Int32)) * (-4658895280553007687 : Int64)
def m3 (z : Int64) : Int64 := (z ^^^ lus z (27 : Int32)) * (-7723592293110705685 : Int64)
def m4 (z : Int64) : Int64 := z ^^^ lus z (31 : Int32)
def mixF (i : Int32) : Int64 := m4 (m3 (m2 (m1 i)))
def u1 (z : Int64) : Int64 := (z ^^^ lus z (31 : Int32)) ^^^ lus z (62 : Int32)
def u2 (z : Int64) : Int64 := (z ^^^ lus z (27 : Int32)) ^^^ lus z (54 : Int32)
def u3 (z : Int64) : Int64 := (z ^^^ lus z (30 : Int32)) ^^^ lus z (60 : Int32)
def unF (z : Int64) : Int64 := u3 (u2 (u1 z * (3573116690164977347 : Int64)) * (-7575587736534282103 : Int64)) - (-7046029254386353131 : Int64)
def KL (el : Int32) : Int32 := (4 : Int32) * (((el + (64 : Int32)) - (1 : Int32)) / (64 : Int32))
def arr (N i : Nat) : List Value := (List.range N).map (fun j => if j < i then .long (mixF j.toInt32) else .long 0)
theorem arr_len (N i : Nat) : (arr N i).length = N := by simp [arr]
theorem arr_zero (N : Nat) : List.replicate N (.long (0 : Int64)) = arr N 0 := by
  apply List.ext_getElem?
  intro j
  simp [arr, List.getElem?_replicate, List.getElem?_range]
  split <;> simp_all
theorem cl32 {i : Nat} (h : i < 2147483648) : i.toInt32.toNatClampNeg = i := by
  simp only [Int32.toNatClampNeg, len_toInt h]; rfl
theorem nn32 {i : Nat} (h : i < 2147483648) : ¬ i.toInt32 < 0 := by
  rw [Int32.lt_iff_toInt_lt, len_toInt h]
  have h0 : (0 : Int32).toInt = 0 := rfl
  omega
theorem lt32 {i N : Nat} (h : i < N) (hN : N ≤ 4096) : i.toInt32 < N.toInt32 := by
  rw [Int32.lt_iff_toInt_lt, len_toInt (by omega), len_toInt (by omega)]; omega
theorem inc32 (i : Nat) : i.toInt32 + (1 : Int32) = (i + 1).toInt32 := by
  apply Int32.toBitVec_inj.mp
  show BitVec.ofNat 32 i + BitVec.ofNat 32 1 = BitVec.ofNat 32 (i + 1)
  rw [BitVec.ofNat_add]
theorem pos32 {N : Nat} (h : (0 : Int32) < N.toInt32) : 0 < N := by
  rcases Nat.eq_zero_or_pos N with rfl | q
  · exact absurd h (by decide)
  · exact q
theorem zero32 {N : Nat} (hN : N ≤ 4096) (h : ¬ (0 : Int32) < N.toInt32) : N = 0 := by
  rw [Int32.lt_iff_toInt_lt, len_toInt (by omega)] at h
  have h0 : (0 : Int32).toInt = 0 := rfl
  omega
theorem arr_set {N i : Nat} (h : i < N) (hN : N ≤ 4096) : (arr N i).set i.toInt32.toNatClampNeg (.long (m4 (m3 (m2 (m1 i.toInt32))))) = arr N (i + 1) := by
  rw [cl32 (by omega)]
  apply List.ext_getElem?
  intro j
  simp only [arr, List.getElem?_set, List.length_map, List.length_range, List.getElem?_map]
  by_cases q : i = j
  · subst q
    simp [h, mixF]
  · by_cases r : j < N
    · simp [q, r, List.getElem?_range]
      by_cases u : j < i
      · simp [u, Nat.lt_succ_of_lt u]
      · simp [u, show ¬ j < i + 1 by omega]
    · simp [q, r, List.getElem?_range]
theorem xs_inv (w : BitVec 64) (i : Nat) (h1 : 64 ≤ 3 * i) : (w ^^^ (w >>> i)) ^^^ ((w ^^^ (w >>> i)) >>> i) ^^^ ((w ^^^ (w >>> i)) >>> (2 * i)) = w := by
  apply BitVec.eq_of_getLsbD_eq
  intro j hj
  simp only [BitVec.getLsbD_xor, BitVec.getLsbD_ushiftRight]
  have e1 : i + (i + j) = 2 * i + j := by omega
  have e2 : w.getLsbD (i + (2 * i + j)) = false := BitVec.getLsbD_of_ge _ _ (by omega)
  rw [e1, e2]
  cases w.getLsbD j <;> cases w.getLsbD (i + j) <;> cases w.getLsbD (2 * i + j) <;> rfl
theorem lus_bv (f : Int64) (k : Int32) (i : Nat) (hk : ((k &&& 0x3f).toInt64.toUInt64).toBitVec.toNat % 64 = i) : (lus f k).toBitVec = f.toBitVec >>> i := by
  subst hk
  show (f.toUInt64 >>> (k &&& 0x3f).toInt64.toUInt64).toBitVec = _
  rw [UInt64.toBitVec_shiftRight, BitVec.ushiftRight_eq']
  congr 1
theorem inv_of (z : Int64) (k k2 : Int32) (i : Nat) (h1 : 64 ≤ 3 * i) (hk : ((k &&& 0x3f).toInt64.toUInt64).toBitVec.toNat % 64 = i) (hk2 : ((k2 &&& 0x3f).toInt64.toUInt64).toBitVec.toNat % 64 = 2 * i) : ((z ^^^ lus z k) ^^^ lus (z ^^^ lus z k) k) ^^^ lus (z ^^^ lus z k) k2 = z := by
  apply Int64.toBitVec_inj.mp
  simp only [Int64.toBitVec_xor, lus_bv _ k i hk, lus_bv _ k2 (2 * i) hk2]
  exact xs_inv z.toBitVec i h1
theorem un_mix (i : Int32) : unF (mixF i) = i.toInt64 := by
  unfold unF mixF
  have e1 : ∀ z, u1 (m4 z) = z := fun z => inv_of z 31 62 31 (by decide) (by decide) (by decide)
  have e2 : ∀ z, u2 (m3 z * (3573116690164977347 : Int64)) = z := fun z => by
    unfold m3
    rw [Int64.mul_assoc, show ((-7723592293110705685 : Int64) * 3573116690164977347) = 1 from by decide, Int64.mul_one]
    exact inv_of z 27 54 27 (by decide) (by decide) (by decide)
  have e3 : ∀ z, u3 (m2 z * (-7575587736534282103 : Int64)) = z := fun z => by
    unfold m2
    rw [Int64.mul_assoc, show ((-4658895280553007687 : Int64) * (-7575587736534282103)) = 1 from by decide, Int64.mul_one]
    exact inv_of z 30 60 30 (by decide) (by decide) (by decide)
  rw [e1, e2, e3]
  unfold m1
  rw [Int64.add_sub_cancel]
theorem mask_toInt (x M : Int32) (k : Nat) (hk : k < 31) (hM : M.toBitVec.toNat = 2 ^ k - 1) : (x &&& M).toInt = x.toInt % ((2 ^ k : Nat) : Int) := by
  have h1 : (x &&& M).toBitVec.toNat = x.toBitVec.toNat % 2 ^ k := by
    rw [Int32.toBitVec_and, BitVec.toNat_and, hM, Nat.and_two_pow_sub_one_eq_mod]
  have h2 : 2 ^ k ≤ 2 ^ 30 := Nat.pow_le_pow_right (by decide) (by omega)
  have h3 : x.toBitVec.toNat % 2 ^ k < 2 ^ k := Nat.mod_lt _ (Nat.pow_pos (by decide))
  have h4 : (x &&& M).toInt = ((x.toBitVec.toNat % 2 ^ k : Nat) : Int) := by
    show (x &&& M).toBitVec.toInt = _
    rw [BitVec.toInt_eq_toNat_of_lt (by rw [h1]; omega), h1]
  rw [h4]
  have h5 : x.toInt = x.toBitVec.toNat ∨ x.toInt = (x.toBitVec.toNat : Int) - 4294967296 := by
    show x.toBitVec.toInt = _ ∨ x.toBitVec.toInt = _
    rw [BitVec.toInt_eq_toNat_cond]; split
    · exact Or.inl rfl
    · exact Or.inr rfl
  have h6 : (4294967296 : Int) % ((2 ^ k : Nat) : Int) = 0 := by
    have : (4294967296 : Nat) = 2 ^ k * 2 ^ (32 - k) := by rw [← Nat.pow_add, show k + (32 - k) = 32 by omega]
    have e : (4294967296 : Int) = ((2 ^ k : Nat) : Int) * ((2 ^ (32 - k) : Nat) : Int) := by rw [← Int.natCast_mul, ← this]; rfl
    rw [e]; exact Int.mul_emod_right _ _
  rw [Int.natCast_emod]
  rcases h5 with e | e <;> rw [e]
  rw [Int.sub_emod, h6]; simp
theorem KLok (nn : Int32) : ¬ KL (nn &&& (65535 : Int32)) < 0 ∧ (KL (nn &&& (65535 : Int32))).toNatClampNeg ≤ 4096 ∧ KL (nn &&& (65535 : Int32)) = (4 : Int32) * (ius (nn &&& (65535 : Int32)) (6 : Int32) + (if ((nn &&& (65535 : Int32)) &&& (63 : Int32)) = 0 then (0 : Int32) else 1)) := by
  obtain ⟨h1, h2⟩ := c_and nn 65535 (by decide)
  generalize nn &&& (65535 : Int32) = el at h1 h2
  have k0 : (0 : Int32).toInt = 0 := rfl
  have k1 : (1 : Int32).toInt = 1 := rfl
  have k4 : (4 : Int32).toInt = 4 := rfl
  have k64 : (64 : Int32).toInt = 64 := rfl
  have kM : (65535 : Int32).toInt = 65535 := rfl
  rw [kM] at h2
  have a1 : ((el + (64 : Int32)) - (1 : Int32)).toInt = el.toInt + 63 := by
    rw [Int32.toInt_sub, Int32.toInt_add, k64, k1]; simp only [Int.bmod]; omega
  have a2 : (((el + (64 : Int32)) - (1 : Int32)) / (64 : Int32)).toInt = (el.toInt + 63) / 64 := by
    rw [(c_idiv _ 64 64 rfl (by decide)).1 (by rw [a1]; omega), a1]
  have a3 : (KL el).toInt = 4 * ((el.toInt + 63) / 64) := by
    unfold KL
    rw [Int32.toInt_mul, a2, k4]; simp only [Int.bmod]; omega
  have b1 : (ius el (6 : Int32)).toInt = el.toInt / 64 := by
    have := c_iushr el 6 6 (by decide) (by decide)
    unfold ius
    rw [this]
    have : ((2 ^ 6 : Nat) : Int) = 64 := rfl
    rw [this]; omega
  have b2 : (el &&& (63 : Int32)).toInt = el.toInt % 64 := mask_toInt el 63 6 (by decide) (by decide)
  have b3 : (el &&& (63 : Int32)) = 0 ↔ el.toInt % 64 = 0 := by rw [← Int32.toInt_inj, b2, k0]
  refine ⟨by rw [Int32.lt_iff_toInt_lt, a3, k0]; omega, ?_, ?_⟩
  · simp only [Int32.toNatClampNeg, a3]; omega
  · rw [← Int32.toInt_inj, a3]
    by_cases q : el.toInt % 64 = 0
    · rw [if_pos (b3.mpr q), Int32.toInt_mul, Int32.toInt_add, b1, k4, k0]; simp only [Int.bmod]; omega
    · rw [if_neg (fun r => q (b3.mp r)), Int32.toInt_mul, Int32.toInt_add, b1, k4, k1]; simp only [Int.bmod]; omega
theorem npos {N : Nat} (hN4 : N ≤ 4096) (hne : ¬ N.toInt32 = 0) : 0 < N := by
  rcases Nat.eq_zero_or_pos N with rfl | q
  · exact absurd rfl hne
  · exact q
theorem ixok {N : Nat} {ix pk : Int32} (hN4 : N ≤ 4096) (hne : ¬ N.toInt32 = 0) (q : ((pk &&& (2147483647 : Int32)) % N.toInt32) = ix) : ¬ ix < 0 ∧ ix.toNatClampNeg < N := by
  have h1 := (c_and pk 2147483647 (by decide)).1
  have hp := npos hN4 hne
  have hl := len_toInt (n := N) (by omega)
  have h2 := (c_iremV (pk &&& (2147483647 : Int32)) N.toInt32).1 h1 (by rw [hl]; omega)
  rw [q, hl] at h2
  have k0 : (0 : Int32).toInt = 0 := rfl
  refine ⟨by rw [Int32.lt_iff_toInt_lt, k0]; omega, ?_⟩
  simp only [Int32.toNatClampNeg]; omega
theorem lxok {N : Nat} {lx : Int32} (hN4 : N ≤ 4096) (hne : ¬ N.toInt32 = 0) (q : (N.toInt32 - (1 : Int32)) = lx) : ¬ lx < 0 ∧ lx.toNatClampNeg < N := by
  have hp := npos hN4 hne
  have hl := len_toInt (n := N) (by omega)
  have k0 : (0 : Int32).toInt = 0 := rfl
  have k1 : (1 : Int32).toInt = 1 := rfl
  have e : lx.toInt = N - 1 := by rw [← q, Int32.toInt_sub, hl, k1]; simp only [Int.bmod]; omega
  refine ⟨by rw [Int32.lt_iff_toInt_lt, k0, e]; omega, ?_⟩
  simp only [Int32.toNatClampNeg, e]; omega
theorem zlt {N : Nat} (hN4 : N ≤ 4096) (hne : ¬ N.toInt32 = 0) : (0 : Int32).toNatClampNeg < N := npos hN4 hne
theorem arr_get {N : Nat} (hN4 : N ≤ 4096) {j : Int32} (h : ¬ j < 0 ∧ j.toNatClampNeg < N) : (arr N N)[j.toNatClampNeg]? = some (.long (mixF j)) := by
  simp [arr, h.2, List.getElem?_range, (back32 h.1).1]
set_option maxRecDepth 65536 in
set_option maxHeartbeats 40000000 in
theorem loop_keys {p : Program} {l : Launch} {e : Env} {R : Room} {s : State} {m : MethodId} {args : Array Value} {below : List Frame} {meth : Method} {c : Code} {Z : State} {a0 : Array Value} {n0 kc kn cells slots : Nat} {Q : Option Value → Heap → Prop} (C : Ctx p s m meth c Z a0 tables_1 "com/example/lattis/lattis/explicit/Cuts" "keys" prog_35_method_3_code 5 (some (.array .long))) (el : Int32) (b : Addr) (gb : n0 ≤ b) (N : Nat) (hN : N ≤ 4096) (hkc : cells ≤ kc) (hkn : slots ≤ kn) (hQ : ∀ h, AR Z h b .long (arr N N) → Q (some (.ref b)) h) : ∀ (k i : Nat) (T : State) (h : Heap) (xx : Int64), i + k = N → St p l e R s m args below meth c n0 T h cells slots → AR Z h b .long (arr N i) →
    Go p e below s n0 kc kn Q (T.setTop (mkF m 16 #[.val (.int el), .val (.ref b), .val (.int i.toInt32), .val (.long xx), .second] [])) := by
  intro k
  induction k with
  | zero =>
    intro i T h xx hi X A
    obtain rfl : i = N := by omega
    show Go p e below s n0 _ _ _ (T.setTop (mkF m 16 #[.val (.int el), .val (.ref b), .val (.int i.toInt32), .val (.long xx), .second] []))
    refine Go.st (fun _ => XS.iloadN X.here C.hx rfl (hb C.hby d1_16) rfl) ?_
    show Go p e below s n0 _ _ _ (T.setTop (mkF m 17 #[.val (.int el), .val (.ref b), .val (.int i.toInt32), .val (.long xx), .second] [(.int i.toInt32)]))
    refine Go.st (fun _ => XS.aloadN X.here C.hx rfl (hb C.hby d1_17) rfl rfl) ?_
    show Go p e below s n0 _ _ _ (T.setTop (mkF m 18 #[.val (.int el), .val (.ref b), .val (.int i.toInt32), .val (.long xx), .second] [(.ref b), (.int i.toInt32)]))
    refine Go.alen C X A (z := i.toInt32) (by rw [arr_len]) d1_18 ?_
    show Go p e below s n0 _ _ _ (T.setTop (mkF m 19 #[.val (.int el), .val (.ref b), .val (.int i.toInt32), .val (.long xx), .second] [(.int i.toInt32), (.int i.toInt32)]))
    refine Go.icmp_ge C X (pc' := 66) d1_19 (by decide) (by decide) (fun _ => ?_) (fun hc => by first | exact absurd hc (irr _) | exact absurd (irr _) hc)
    show Go p e below s n0 _ _ _ (T.setTop (mkF m 66 #[.val (.int el), .val (.ref b), .val (.int i.toInt32), .val (.long xx), .second] []))
    refine Go.st (fun _ => XS.aloadN X.here C.hx rfl (hb C.hby d1_66) rfl rfl) ?_
    show Go p e below s n0 _ _ _ (T.setTop (mkF m 67 #[.val (.int el), .val (.ref b), .val (.int i.toInt32), .val (.long xx), .second] [(.ref b)]))
    exact Go.retA C X rfl rfl d1_67 (hQ _ A) hkc hkn
  | succ k ih =>
    intro i T h xx hi X A
    have hlt : i.toInt32 < N.toInt32 := lt32 (by omega) hN
    show Go p e below s n0 _ _ _ (T.setTop (mkF m 16 #[.val (.int el), .val (.ref b), .val (.int i.toInt32), .val (.long xx), .second] []))
    refine Go.st (fun _ => XS.iloadN X.here C.hx rfl (hb C.hby d1_16) rfl) ?_
    show Go p e below s n0 _ _ _ (T.setTop (mkF m 17 #[.val (.int el), .val (.ref b), .val (.int i.toInt32), .val (.long xx), .second] [(.int i.toInt32)]))
    refine Go.st (fun _ => XS.aloadN X.here C.hx rfl (hb C.hby d1_17) rfl rfl) ?_
    show Go p e below s n0 _ _ _ (T.setTop (mkF m 18 #[.val (.int el), .val (.ref b), .val (.int i.toInt32), .val (.long xx), .second] [(.ref b), (.int i.toInt32)]))
    refine Go.alen C X A (z := N.toInt32) (by rw [arr_len]) d1_18 ?_
    show Go p e below s n0 _ _ _ (T.setTop (mkF m 19 #[.val (.int el), .val (.ref b), .val (.int i.toInt32), .val (.long xx), .second] [(.int N.toInt32), (.int i.toInt32)]))
    refine Go.icmp_ge C X (pc' := 66) d1_19 (by decide) (by decide) (fun hc => by first | exact absurd hc hlt | exact absurd hlt hc) (fun _ => ?_)
    show Go p e below s n0 _ _ _ (T.setTop (mkF m 22 #[.val (.int el), .val (.ref b), .val (.int i.toInt32), .val (.long xx), .second] []))
    refine Go.st (fun _ => XS.iloadN X.here C.hx rfl (hb C.hby d1_22) rfl) ?_
    show Go p e below s n0 _ _ _ (T.setTop (mkF m 23 #[.val (.int el), .val (.ref b), .val (.int i.toInt32), .val (.long xx), .second] [(.int i.toInt32)]))
    refine Go.st (fun _ => XS.i2l X.here C.hx rfl (hb C.hby d1_23) rfl) ?_
    show Go p e below s n0 _ _ _ (T.setTop (mkF m 24 #[.val (.int el), .val (.ref b), .val (.int i.toInt32), .val (.long xx), .second] [(.long i.toInt32.toInt64)]))
    refine Go.ldcJ C X (wd 6 rfl) d1_24 ?_
    show Go p e below s n0 _ _ _ (T.setTop (mkF m 27 #[.val (.int el), .val (.ref b), .val (.int i.toInt32), .val (.long xx), .second] [(.long (-7046029254386353131 : Int64)), (.long i.toInt32.toInt64)]))
    refine Go.st (fun _ => XS.ladd X.here C.hx rfl (hb C.hby d1_27) rfl) ?_
    show Go p e below s n0 _ _ _ (T.setTop (mkF m 28 #[.val (.int el), .val (.ref b), .val (.int i.toInt32), .val (.long xx), .second] [(.long (i.toInt32.toInt64 + (-7046029254386353131 : Int64)))]))
    refine Go.st (fun _ => XS.lstoreN X.here C.hx rfl (hb C.hby d1_28) rfl (l' := #[.val (.int el), .val (.ref b), .val (.int i.toInt32), .val (.long (m1 i.toInt32)), .second]) rfl) ?_
    show Go p e below s n0 _ _ _ (T.setTop (mkF m 29 #[.val (.int el), .val (.ref b), .val (.int i.toInt32), .val (.long (m1 i.toInt32)), .second] []))
    refine Go.st (fun _ => XS.lloadN X.here C.hx rfl (hb C.hby d1_29) rfl) ?_
    show Go p e below s n0 _ _ _ (T.setTop (mkF m 30 #[.val (.int el), .val (.ref b), .val (.int i.toInt32), .val (.long (m1 i.toInt32)), .second] [(.long (m1 i.toInt32))]))
    refine Go.st (fun _ => XS.lloadN X.here C.hx rfl (hb C.hby d1_30) rfl) ?_
    show Go p e below s n0 _ _ _ (T.setTop (mkF m 31 #[.val (.int el), .val (.ref b), .val (.int i.toInt32), .val (.long (m1 i.toInt32)), .second] [(.long (m1 i.toInt32)), (.long (m1 i.toInt32))]))
    refine Go.st (fun _ => XS.bipush X.here C.hx rfl (hb C.hby d1_31)) ?_
    show Go p e below s n0 _ _ _ (T.setTop (mkF m 33 #[.val (.int el), .val (.ref b), .val (.int i.toInt32), .val (.long (m1 i.toInt32)), .second] [(.int (30 : Int32)), (.long (m1 i.toInt32)), (.long (m1 i.toInt32))]))
    refine Go.st (fun _ => XS.lushr X.here C.hx rfl (hb C.hby d1_33) rfl) ?_
    show Go p e below s n0 _ _ _ (T.setTop (mkF m 34 #[.val (.int el), .val (.ref b), .val (.int i.toInt32), .val (.long (m1 i.toInt32)), .second] [(.long (lus (m1 i.toInt32) (30 : Int32))), (.long (m1 i.toInt32))]))
    refine Go.st (fun _ => XS.lxor X.here C.hx rfl (hb C.hby d1_34) rfl) ?_
    show Go p e below s n0 _ _ _ (T.setTop (mkF m 35 #[.val (.int el), .val (.ref b), .val (.int i.toInt32), .val (.long (m1 i.toInt32)), .second] [(.long ((m1 i.toInt32) ^^^ (lus (m1 i.toInt32) (30 : Int32))))]))
    refine Go.ldcJ C X (wd 7 rfl) d1_35 ?_
    show Go p e below s n0 _ _ _ (T.setTop (mkF m 38 #[.val (.int el), .val (.ref b), .val (.int i.toInt32), .val (.long (m1 i.toInt32)), .second] [(.long (-4658895280553007687 : Int64)), (.long ((m1 i.toInt32) ^^^ (lus (m1 i.toInt32) (30 : Int32))))]))
    refine Go.st (fun _ => XS.lmul X.here C.hx rfl (hb C.hby d1_38) rfl) ?_
    show Go p e below s n0 _ _ _ (T.setTop (mkF m 39 #[.val (.int el), .val (.ref b), .val (.int i.toInt32), .val (.long (m1 i.toInt32)), .second] [(.long (((m1 i.toInt32) ^^^ (lus (m1 i.toInt32) (30 : Int32))) * (-4658895280553007687 : Int64)))]))
    refine Go.st (fun _ => XS.lstoreN X.here C.hx rfl (hb C.hby d1_39) rfl (l' := #[.val (.int el), .val (.ref b), .val (.int i.toInt32), .val (.long (m2 (m1 i.toInt32))), .second]) rfl) ?_
    show Go p e below s n0 _ _ _ (T.setTop (mkF m 40 #[.val (.int el), .val (.ref b), .val (.int i.toInt32), .val (.long (m2 (m1 i.toInt32))), .second] []))
    refine Go.st (fun _ => XS.lloadN X.here C.hx rfl (hb C.hby d1_40) rfl) ?_
    show Go p e below s n0 _ _ _ (T.setTop (mkF m 41 #[.val (.int el), .val (.ref b), .val (.int i.toInt32), .val (.long (m2 (m1 i.toInt32))), .second] [(.long (m2 (m1 i.toInt32)))]))
    refine Go.st (fun _ => XS.lloadN X.here C.hx rfl (hb C.hby d1_41) rfl) ?_
    show Go p e below s n0 _ _ _ (T.setTop (mkF m 42 #[.val (.int el), .val (.ref b), .val (.int i.toInt32), .val (.long (m2 (m1 i.toInt32))), .second] [(.long (m2 (m1 i.toInt32))), (.long (m2 (m1 i.toInt32)))]))
    refine Go.st (fun _ => XS.bipush X.here C.hx rfl (hb C.hby d1_42)) ?_
    show Go p e below s n0 _ _ _ (T.setTop (mkF m 44 #[.val (.int el), .val (.ref b), .val (.int i.toInt32), .val (.long (m2 (m1 i.toInt32))), .second] [(.int (27 : Int32)), (.long (m2 (m1 i.toInt32))), (.long (m2 (m1 i.toInt32)))]))
    refine Go.st (fun _ => XS.lushr X.here C.hx rfl (hb C.hby d1_44) rfl) ?_
    show Go p e below s n0 _ _ _ (T.setTop (mkF m 45 #[.val (.int el), .val (.ref b), .val (.int i.toInt32), .val (.long (m2 (m1 i.toInt32))), .second] [(.long (lus (m2 (m1 i.toInt32)) (27 : Int32))), (.long (m2 (m1 i.toInt32)))]))
    refine Go.st (fun _ => XS.lxor X.here C.hx rfl (hb C.hby d1_45) rfl) ?_
    show Go p e below s n0 _ _ _ (T.setTop (mkF m 46 #[.val (.int el), .val (.ref b), .val (.int i.toInt32), .val (.long (m2 (m1 i.toInt32))), .second] [(.long ((m2 (m1 i.toInt32)) ^^^ (lus (m2 (m1 i.toInt32)) (27 : Int32))))]))
    refine Go.ldcJ C X (wd 8 rfl) d1_46 ?_
    show Go p e below s n0 _ _ _ (T.setTop (mkF m 49 #[.val (.int el), .val (.ref b), .val (.int i.toInt32), .val (.long (m2 (m1 i.toInt32))), .second] [(.long (-7723592293110705685 : Int64)), (.long ((m2 (m1 i.toInt32)) ^^^ (lus (m2 (m1 i.toInt32)) (27 : Int32))))]))
    refine Go.st (fun _ => XS.lmul X.here C.hx rfl (hb C.hby d1_49) rfl) ?_
    show Go p e below s n0 _ _ _ (T.setTop (mkF m 50 #[.val (.int el), .val (.ref b), .val (.int i.toInt32), .val (.long (m2 (m1 i.toInt32))), .second] [(.long (((m2 (m1 i.toInt32)) ^^^ (lus (m2 (m1 i.toInt32)) (27 : Int32))) * (-7723592293110705685 : Int64)))]))
    refine Go.st (fun _ => XS.lstoreN X.here C.hx rfl (hb C.hby d1_50) rfl (l' := #[.val (.int el), .val (.ref b), .val (.int i.toInt32), .val (.long (m3 (m2 (m1 i.toInt32)))), .second]) rfl) ?_
    show Go p e below s n0 _ _ _ (T.setTop (mkF m 51 #[.val (.int el), .val (.ref b), .val (.int i.toInt32), .val (.long (m3 (m2 (m1 i.toInt32)))), .second] []))
    refine Go.st (fun _ => XS.aloadN X.here C.hx rfl (hb C.hby d1_51) rfl rfl) ?_
    show Go p e below s n0 _ _ _ (T.setTop (mkF m 52 #[.val (.int el), .val (.ref b), .val (.int i.toInt32), .val (.long (m3 (m2 (m1 i.toInt32)))), .second] [(.ref b)]))
    refine Go.st (fun _ => XS.iloadN X.here C.hx rfl (hb C.hby d1_52) rfl) ?_
    show Go p e below s n0 _ _ _ (T.setTop (mkF m 53 #[.val (.int el), .val (.ref b), .val (.int i.toInt32), .val (.long (m3 (m2 (m1 i.toInt32)))), .second] [(.int i.toInt32), (.ref b)]))
    refine Go.st (fun _ => XS.lloadN X.here C.hx rfl (hb C.hby d1_53) rfl) ?_
    show Go p e below s n0 _ _ _ (T.setTop (mkF m 54 #[.val (.int el), .val (.ref b), .val (.int i.toInt32), .val (.long (m3 (m2 (m1 i.toInt32)))), .second] [(.long (m3 (m2 (m1 i.toInt32)))), (.int i.toInt32), (.ref b)]))
    refine Go.st (fun _ => XS.lloadN X.here C.hx rfl (hb C.hby d1_54) rfl) ?_
    show Go p e below s n0 _ _ _ (T.setTop (mkF m 55 #[.val (.int el), .val (.ref b), .val (.int i.toInt32), .val (.long (m3 (m2 (m1 i.toInt32)))), .second] [(.long (m3 (m2 (m1 i.toInt32)))), (.long (m3 (m2 (m1 i.toInt32)))), (.int i.toInt32), (.ref b)]))
    refine Go.st (fun _ => XS.bipush X.here C.hx rfl (hb C.hby d1_55)) ?_
    show Go p e below s n0 _ _ _ (T.setTop (mkF m 57 #[.val (.int el), .val (.ref b), .val (.int i.toInt32), .val (.long (m3 (m2 (m1 i.toInt32)))), .second] [(.int (31 : Int32)), (.long (m3 (m2 (m1 i.toInt32)))), (.long (m3 (m2 (m1 i.toInt32)))), (.int i.toInt32), (.ref b)]))
    refine Go.st (fun _ => XS.lushr X.here C.hx rfl (hb C.hby d1_57) rfl) ?_
    show Go p e below s n0 _ _ _ (T.setTop (mkF m 58 #[.val (.int el), .val (.ref b), .val (.int i.toInt32), .val (.long (m3 (m2 (m1 i.toInt32)))), .second] [(.long (lus (m3 (m2 (m1 i.toInt32))) (31 : Int32))), (.long (m3 (m2 (m1 i.toInt32)))), (.int i.toInt32), (.ref b)]))
    refine Go.st (fun _ => XS.lxor X.here C.hx rfl (hb C.hby d1_58) rfl) ?_
    show Go p e below s n0 _ _ _ (T.setTop (mkF m 59 #[.val (.int el), .val (.ref b), .val (.int i.toInt32), .val (.long (m3 (m2 (m1 i.toInt32)))), .second] [(.long ((m3 (m2 (m1 i.toInt32))) ^^^ (lus (m3 (m2 (m1 i.toInt32))) (31 : Int32)))), (.int i.toInt32), (.ref b)]))
    refine Go.lastore C X A (nn32 (by omega)) (by rw [arr_len, cl32 (by omega)]; omega) gb d1_59 (fun T103 h103 X103 W103 A103 => ?_)
    show Go p e below s n0 _ _ _ (T103.setTop (mkF m 60 #[.val (.int el), .val (.ref b), .val (.int i.toInt32), .val (.long (m3 (m2 (m1 i.toInt32)))), .second] []))
    refine Go.st (fun _ => XS.iinc X103.here C.hx rfl (hb C.hby d1_60) rfl (l' := #[.val (.int el), .val (.ref b), .val (.int (i.toInt32 + (1 : Int32))), .val (.long (m3 (m2 (m1 i.toInt32)))), .second]) rfl) ?_
    show Go p e below s n0 _ _ _ (T103.setTop (mkF m 63 #[.val (.int el), .val (.ref b), .val (.int (i.toInt32 + (1 : Int32))), .val (.long (m3 (m2 (m1 i.toInt32)))), .second] []))
    refine Go.st (fun _ => XS.goto X103.here C.hx rfl (pc0 := 63) (pc' := 16) rfl (hb C.hby d1_63) (by decide) (by decide)) ?_
    show Go p e below s n0 _ _ _ (T103.setTop (mkF m 16 #[.val (.int el), .val (.ref b), .val (.int (i.toInt32 + (1 : Int32))), .val (.long (m3 (m2 (m1 i.toInt32)))), .second] []))
    rw [inc32 i]
    refine ih (i + 1) T103 h103 _ (by omega) X103 ?_
    rw [← arr_set (by omega) hN]
    exact A103
set_option maxRecDepth 65536 in
set_option maxHeartbeats 40000000 in
theorem con_keys (l : Launch) (Z : State) (a0 : Array Value) (hw : ∀ d ∈ tables_1, d.before a0 Z = true) (n0 : Nat) (h0 : Heap) (Z0 : n0 ≤ h0.size) (el : Int32) (N : Nat) (hN : (KL el).toNatClampNeg = N) (hnn : ¬ KL el < 0) (h4 : N ≤ 4096) :
    Con l Z (⟨"com/example/lattis/lattis/explicit/Cuts", "keys", "(I)[J"⟩ : MethodName) prog_35_method_3_code 5 (some (.array .long)) [] ({ frames := 0, cells := 1, slots := 4096, locals := 0 } : Room) n0 #[(.int el)] h0 (fun v h => ∃ b, v = some (.ref b) ∧ AR Z h b .long (arr N N)) := by
  refine Con.mk pf_1 hw Z0 ?_
  intro p e s m below meth c T0 C X0
  have ef : entryFrame m #[(.int el)] 5 = mkF m 0 #[.val (.int el), .unset, .unset, .unset, .unset] [] := by first | (simp [entryFrame, mkF, argsToLocals, Value.category]; done) | rfl
  rw [ef]
  show Go p e below s n0 _ _ _ (T0.setTop (mkF m 0 #[.val (.int el), .unset, .unset, .unset, .unset] []))
  refine Go.st (fun _ => XS.iconst X0.here C.hx rfl (hb C.hby d1_0)) ?_
  show Go p e below s n0 _ _ _ (T0.setTop (mkF m 1 #[.val (.int el), .unset, .unset, .unset, .unset] [(.int (4 : Int32))]))
  refine Go.st (fun _ => XS.iloadN X0.here C.hx rfl (hb C.hby d1_1) rfl) ?_
  show Go p e below s n0 _ _ _ (T0.setTop (mkF m 2 #[.val (.int el), .unset, .unset, .unset, .unset] [(.int el), (.int (4 : Int32))]))
  refine Go.st (fun _ => XS.bipush X0.here C.hx rfl (hb C.hby d1_2)) ?_
  show Go p e below s n0 _ _ _ (T0.setTop (mkF m 4 #[.val (.int el), .unset, .unset, .unset, .unset] [(.int (64 : Int32)), (.int el), (.int (4 : Int32))]))
  refine Go.st (fun _ => XS.iadd X0.here C.hx rfl (hb C.hby d1_4) rfl) ?_
  show Go p e below s n0 _ _ _ (T0.setTop (mkF m 5 #[.val (.int el), .unset, .unset, .unset, .unset] [(.int (el + (64 : Int32))), (.int (4 : Int32))]))
  refine Go.st (fun _ => XS.iconst X0.here C.hx rfl (hb C.hby d1_5)) ?_
  show Go p e below s n0 _ _ _ (T0.setTop (mkF m 6 #[.val (.int el), .unset, .unset, .unset, .unset] [(.int (1 : Int32)), (.int (el + (64 : Int32))), (.int (4 : Int32))]))
  refine Go.st (fun _ => XS.isub X0.here C.hx rfl (hb C.hby d1_6) rfl) ?_
  show Go p e below s n0 _ _ _ (T0.setTop (mkF m 7 #[.val (.int el), .unset, .unset, .unset, .unset] [(.int ((el + (64 : Int32)) - (1 : Int32))), (.int (4 : Int32))]))
  refine Go.st (fun _ => XS.bipush X0.here C.hx rfl (hb C.hby d1_7)) ?_
  show Go p e below s n0 _ _ _ (T0.setTop (mkF m 9 #[.val (.int el), .unset, .unset, .unset, .unset] [(.int (64 : Int32)), (.int ((el + (64 : Int32)) - (1 : Int32))), (.int (4 : Int32))]))
  refine Go.st (fun _ => XS.idiv X0.here C.hx rfl (hb C.hby d1_9) rfl (by decide)) ?_
  show Go p e below s n0 _ _ _ (T0.setTop (mkF m 10 #[.val (.int el), .unset, .unset, .unset, .unset] [(.int (((el + (64 : Int32)) - (1 : Int32)) / (64 : Int32))), (.int (4 : Int32))]))
  refine Go.st (fun _ => XS.imul X0.here C.hx rfl (hb C.hby d1_10) rfl) ?_
  show Go p e below s n0 _ _ _ (T0.setTop (mkF m 11 #[.val (.int el), .unset, .unset, .unset, .unset] [(.int ((4 : Int32) * (((el + (64 : Int32)) - (1 : Int32)) / (64 : Int32))))]))
  refine Go.newP C X0 (aty := .long) (cap := 4096) (wd 5 rfl) d1_11 hnn (by rw [← hN] at h4; exact h4) (by decide) (by decide) (by decide) (fun T104 h104 b104 g104 ge104 X104 E104 A104 => ?_)
  show Go p e below s n0 _ _ _ (T104.setTop (mkF m 13 #[.val (.int el), .unset, .unset, .unset, .unset] [(.ref b104)]))
  refine Go.st (fun _ => XS.astoreN X104.here C.hx rfl (hb C.hby d1_13) rfl rfl (l' := #[.val (.int el), .val (.ref b104), .unset, .unset, .unset]) rfl) ?_
  have AA : AR Z h104 b104 .long (arr N 0) := by rw [← arr_zero, ← hN]; exact A104
  show Go p e below s n0 _ _ _ (T104.setTop (mkF m 14 #[.val (.int el), .val (.ref b104), .unset, .unset, .unset] []))
  refine Go.st (fun _ => XS.iconst X104.here C.hx rfl (hb C.hby d1_14)) ?_
  show Go p e below s n0 _ _ _ (T104.setTop (mkF m 15 #[.val (.int el), .val (.ref b104), .unset, .unset, .unset] [(.int (0 : Int32))]))
  refine Go.st (fun _ => XS.istoreN X104.here C.hx rfl (hb C.hby d1_15) rfl (l' := #[.val (.int el), .val (.ref b104), .val (.int (0 : Int32)), .unset, .unset]) rfl) ?_
  show Go p e below s n0 _ _ _ (T104.setTop (mkF m 16 #[.val (.int el), .val (.ref b104), .val (.int (0 : Int32)), .unset, .unset] []))
  refine Go.st (fun _ => XS.iloadN X104.here C.hx rfl (hb C.hby d1_16) rfl) ?_
  show Go p e below s n0 _ _ _ (T104.setTop (mkF m 17 #[.val (.int el), .val (.ref b104), .val (.int (0 : Int32)), .unset, .unset] [(.int (0 : Int32))]))
  refine Go.st (fun _ => XS.aloadN X104.here C.hx rfl (hb C.hby d1_17) rfl rfl) ?_
  show Go p e below s n0 _ _ _ (T104.setTop (mkF m 18 #[.val (.int el), .val (.ref b104), .val (.int (0 : Int32)), .unset, .unset] [(.ref b104), (.int (0 : Int32))]))
  refine Go.alen C X104 AA (z := N.toInt32) (by rw [arr_len]) d1_18 ?_
  show Go p e below s n0 _ _ _ (T104.setTop (mkF m 19 #[.val (.int el), .val (.ref b104), .val (.int (0 : Int32)), .unset, .unset] [(.int N.toInt32), (.int (0 : Int32))]))
  refine Go.icmp_ge C X104 (pc' := 66) d1_19 (by decide) (by decide) (fun hc19_105 => ?_) (fun hc19_105 => ?_)
  · show Go p e below s n0 _ _ _ (T104.setTop (mkF m 66 #[.val (.int el), .val (.ref b104), .val (.int (0 : Int32)), .unset, .unset] []))
    refine Go.st (fun _ => XS.aloadN X104.here C.hx rfl (hb C.hby d1_66) rfl rfl) ?_
    show Go p e below s n0 _ _ _ (T104.setTop (mkF m 67 #[.val (.int el), .val (.ref b104), .val (.int (0 : Int32)), .unset, .unset] [(.ref b104)]))
    exact Go.retA C X104 rfl rfl d1_67 ⟨_, rfl, (by have e : N = 0 := zero32 h4 hc19_105; subst e; exact AA)⟩ (by decide) (by decide)
  · have hpos : 0 < N := pos32 hc19_105
    show Go p e below s n0 _ _ _ (T104.setTop (mkF m 22 #[.val (.int el), .val (.ref b104), .val (.int (0 : Int32)), .unset, .unset] []))
    refine Go.st (fun _ => XS.iloadN X104.here C.hx rfl (hb C.hby d1_22) rfl) ?_
    show Go p e below s n0 _ _ _ (T104.setTop (mkF m 23 #[.val (.int el), .val (.ref b104), .val (.int (0 : Int32)), .unset, .unset] [(.int (0 : Int32))]))
    refine Go.st (fun _ => XS.i2l X104.here C.hx rfl (hb C.hby d1_23) rfl) ?_
    show Go p e below s n0 _ _ _ (T104.setTop (mkF m 24 #[.val (.int el), .val (.ref b104), .val (.int (0 : Int32)), .unset, .unset] [(.long (0 : Int32).toInt64)]))
    refine Go.ldcJ C X104 (wd 6 rfl) d1_24 ?_
    show Go p e below s n0 _ _ _ (T104.setTop (mkF m 27 #[.val (.int el), .val (.ref b104), .val (.int (0 : Int32)), .unset, .unset] [(.long (-7046029254386353131 : Int64)), (.long (0 : Int32).toInt64)]))
    refine Go.st (fun _ => XS.ladd X104.here C.hx rfl (hb C.hby d1_27) rfl) ?_
    show Go p e below s n0 _ _ _ (T104.setTop (mkF m 28 #[.val (.int el), .val (.ref b104), .val (.int (0 : Int32)), .unset, .unset] [(.long ((0 : Int32).toInt64 + (-7046029254386353131 : Int64)))]))
    refine Go.st (fun _ => XS.lstoreN X104.here C.hx rfl (hb C.hby d1_28) rfl (l' := #[.val (.int el), .val (.ref b104), .val (.int (0 : Int32)), .val (.long (m1 (0 : Int32))), .second]) rfl) ?_
    show Go p e below s n0 _ _ _ (T104.setTop (mkF m 29 #[.val (.int el), .val (.ref b104), .val (.int (0 : Int32)), .val (.long (m1 (0 : Int32))), .second] []))
    refine Go.st (fun _ => XS.lloadN X104.here C.hx rfl (hb C.hby d1_29) rfl) ?_
    show Go p e below s n0 _ _ _ (T104.setTop (mkF m 30 #[.val (.int el), .val (.ref b104), .val (.int (0 : Int32)), .val (.long (m1 (0 : Int32))), .second] [(.long (m1 (0 : Int32)))]))
    refine Go.st (fun _ => XS.lloadN X104.here C.hx rfl (hb C.hby d1_30) rfl) ?_
    show Go p e below s n0 _ _ _ (T104.setTop (mkF m 31 #[.val (.int el), .val (.ref b104), .val (.int (0 : Int32)), .val (.long (m1 (0 : Int32))), .second] [(.long (m1 (0 : Int32))), (.long (m1 (0 : Int32)))]))
    refine Go.st (fun _ => XS.bipush X104.here C.hx rfl (hb C.hby d1_31)) ?_
    show Go p e below s n0 _ _ _ (T104.setTop (mkF m 33 #[.val (.int el), .val (.ref b104), .val (.int (0 : Int32)), .val (.long (m1 (0 : Int32))), .second] [(.int (30 : Int32)), (.long (m1 (0 : Int32))), (.long (m1 (0 : Int32)))]))
    refine Go.st (fun _ => XS.lushr X104.here C.hx rfl (hb C.hby d1_33) rfl) ?_
    show Go p e below s n0 _ _ _ (T104.setTop (mkF m 34 #[.val (.int el), .val (.ref b104), .val (.int (0 : Int32)), .val (.long (m1 (0 : Int32))), .second] [(.long (lus (m1 (0 : Int32)) (30 : Int32))), (.long (m1 (0 : Int32)))]))
    refine Go.st (fun _ => XS.lxor X104.here C.hx rfl (hb C.hby d1_34) rfl) ?_
    show Go p e below s n0 _ _ _ (T104.setTop (mkF m 35 #[.val (.int el), .val (.ref b104), .val (.int (0 : Int32)), .val (.long (m1 (0 : Int32))), .second] [(.long ((m1 (0 : Int32)) ^^^ (lus (m1 (0 : Int32)) (30 : Int32))))]))
    refine Go.ldcJ C X104 (wd 7 rfl) d1_35 ?_
    show Go p e below s n0 _ _ _ (T104.setTop (mkF m 38 #[.val (.int el), .val (.ref b104), .val (.int (0 : Int32)), .val (.long (m1 (0 : Int32))), .second] [(.long (-4658895280553007687 : Int64)), (.long ((m1 (0 : Int32)) ^^^ (lus (m1 (0 : Int32)) (30 : Int32))))]))
    refine Go.st (fun _ => XS.lmul X104.here C.hx rfl (hb C.hby d1_38) rfl) ?_
    show Go p e below s n0 _ _ _ (T104.setTop (mkF m 39 #[.val (.int el), .val (.ref b104), .val (.int (0 : Int32)), .val (.long (m1 (0 : Int32))), .second] [(.long (((m1 (0 : Int32)) ^^^ (lus (m1 (0 : Int32)) (30 : Int32))) * (-4658895280553007687 : Int64)))]))
    refine Go.st (fun _ => XS.lstoreN X104.here C.hx rfl (hb C.hby d1_39) rfl (l' := #[.val (.int el), .val (.ref b104), .val (.int (0 : Int32)), .val (.long (m2 (m1 (0 : Int32)))), .second]) rfl) ?_
    show Go p e below s n0 _ _ _ (T104.setTop (mkF m 40 #[.val (.int el), .val (.ref b104), .val (.int (0 : Int32)), .val (.long (m2 (m1 (0 : Int32)))), .second] []))
    refine Go.st (fun _ => XS.lloadN X104.here C.hx rfl (hb C.hby d1_40) rfl) ?_
    show Go p e below s n0 _ _ _ (T104.setTop (mkF m 41 #[.val (.int el), .val (.ref b104), .val (.int (0 : Int32)), .val (.long (m2 (m1 (0 : Int32)))), .second] [(.long (m2 (m1 (0 : Int32))))]))
    refine Go.st (fun _ => XS.lloadN X104.here C.hx rfl (hb C.hby d1_41) rfl) ?_
    show Go p e below s n0 _ _ _ (T104.setTop (mkF m 42 #[.val (.int el), .val (.ref b104), .val (.int (0 : Int32)), .val (.long (m2 (m1 (0 : Int32)))), .second] [(.long (m2 (m1 (0 : Int32)))), (.long (m2 (m1 (0 : Int32))))]))
    refine Go.st (fun _ => XS.bipush X104.here C.hx rfl (hb C.hby d1_42)) ?_
    show Go p e below s n0 _ _ _ (T104.setTop (mkF m 44 #[.val (.int el), .val (.ref b104), .val (.int (0 : Int32)), .val (.long (m2 (m1 (0 : Int32)))), .second] [(.int (27 : Int32)), (.long (m2 (m1 (0 : Int32)))), (.long (m2 (m1 (0 : Int32))))]))
    refine Go.st (fun _ => XS.lushr X104.here C.hx rfl (hb C.hby d1_44) rfl) ?_
    show Go p e below s n0 _ _ _ (T104.setTop (mkF m 45 #[.val (.int el), .val (.ref b104), .val (.int (0 : Int32)), .val (.long (m2 (m1 (0 : Int32)))), .second] [(.long (lus (m2 (m1 (0 : Int32))) (27 : Int32))), (.long (m2 (m1 (0 : Int32))))]))
    refine Go.st (fun _ => XS.lxor X104.here C.hx rfl (hb C.hby d1_45) rfl) ?_
    show Go p e below s n0 _ _ _ (T104.setTop (mkF m 46 #[.val (.int el), .val (.ref b104), .val (.int (0 : Int32)), .val (.long (m2 (m1 (0 : Int32)))), .second] [(.long ((m2 (m1 (0 : Int32))) ^^^ (lus (m2 (m1 (0 : Int32))) (27 : Int32))))]))
    refine Go.ldcJ C X104 (wd 8 rfl) d1_46 ?_
    show Go p e below s n0 _ _ _ (T104.setTop (mkF m 49 #[.val (.int el), .val (.ref b104), .val (.int (0 : Int32)), .val (.long (m2 (m1 (0 : Int32)))), .second] [(.long (-7723592293110705685 : Int64)), (.long ((m2 (m1 (0 : Int32))) ^^^ (lus (m2 (m1 (0 : Int32))) (27 : Int32))))]))
    refine Go.st (fun _ => XS.lmul X104.here C.hx rfl (hb C.hby d1_49) rfl) ?_
    show Go p e below s n0 _ _ _ (T104.setTop (mkF m 50 #[.val (.int el), .val (.ref b104), .val (.int (0 : Int32)), .val (.long (m2 (m1 (0 : Int32)))), .second] [(.long (((m2 (m1 (0 : Int32))) ^^^ (lus (m2 (m1 (0 : Int32))) (27 : Int32))) * (-7723592293110705685 : Int64)))]))
    refine Go.st (fun _ => XS.lstoreN X104.here C.hx rfl (hb C.hby d1_50) rfl (l' := #[.val (.int el), .val (.ref b104), .val (.int (0 : Int32)), .val (.long (m3 (m2 (m1 (0 : Int32))))), .second]) rfl) ?_
    show Go p e below s n0 _ _ _ (T104.setTop (mkF m 51 #[.val (.int el), .val (.ref b104), .val (.int (0 : Int32)), .val (.long (m3 (m2 (m1 (0 : Int32))))), .second] []))
    refine Go.st (fun _ => XS.aloadN X104.here C.hx rfl (hb C.hby d1_51) rfl rfl) ?_
    show Go p e below s n0 _ _ _ (T104.setTop (mkF m 52 #[.val (.int el), .val (.ref b104), .val (.int (0 : Int32)), .val (.long (m3 (m2 (m1 (0 : Int32))))), .second] [(.ref b104)]))
    refine Go.st (fun _ => XS.iloadN X104.here C.hx rfl (hb C.hby d1_52) rfl) ?_
    show Go p e below s n0 _ _ _ (T104.setTop (mkF m 53 #[.val (.int el), .val (.ref b104), .val (.int (0 : Int32)), .val (.long (m3 (m2 (m1 (0 : Int32))))), .second] [(.int (0 : Int32)), (.ref b104)]))
    refine Go.st (fun _ => XS.lloadN X104.here C.hx rfl (hb C.hby d1_53) rfl) ?_
    show Go p e below s n0 _ _ _ (T104.setTop (mkF m 54 #[.val (.int el), .val (.ref b104), .val (.int (0 : Int32)), .val (.long (m3 (m2 (m1 (0 : Int32))))), .second] [(.long (m3 (m2 (m1 (0 : Int32))))), (.int (0 : Int32)), (.ref b104)]))
    refine Go.st (fun _ => XS.lloadN X104.here C.hx rfl (hb C.hby d1_54) rfl) ?_
    show Go p e below s n0 _ _ _ (T104.setTop (mkF m 55 #[.val (.int el), .val (.ref b104), .val (.int (0 : Int32)), .val (.long (m3 (m2 (m1 (0 : Int32))))), .second] [(.long (m3 (m2 (m1 (0 : Int32))))), (.long (m3 (m2 (m1 (0 : Int32))))), (.int (0 : Int32)), (.ref b104)]))
    refine Go.st (fun _ => XS.bipush X104.here C.hx rfl (hb C.hby d1_55)) ?_
    show Go p e below s n0 _ _ _ (T104.setTop (mkF m 57 #[.val (.int el), .val (.ref b104), .val (.int (0 : Int32)), .val (.long (m3 (m2 (m1 (0 : Int32))))), .second] [(.int (31 : Int32)), (.long (m3 (m2 (m1 (0 : Int32))))), (.long (m3 (m2 (m1 (0 : Int32))))), (.int (0 : Int32)), (.ref b104)]))
    refine Go.st (fun _ => XS.lushr X104.here C.hx rfl (hb C.hby d1_57) rfl) ?_
    show Go p e below s n0 _ _ _ (T104.setTop (mkF m 58 #[.val (.int el), .val (.ref b104), .val (.int (0 : Int32)), .val (.long (m3 (m2 (m1 (0 : Int32))))), .second] [(.long (lus (m3 (m2 (m1 (0 : Int32)))) (31 : Int32))), (.long (m3 (m2 (m1 (0 : Int32))))), (.int (0 : Int32)), (.ref b104)]))
    refine Go.st (fun _ => XS.lxor X104.here C.hx rfl (hb C.hby d1_58) rfl) ?_
    show Go p e below s n0 _ _ _ (T104.setTop (mkF m 59 #[.val (.int el), .val (.ref b104), .val (.int (0 : Int32)), .val (.long (m3 (m2 (m1 (0 : Int32))))), .second] [(.long ((m3 (m2 (m1 (0 : Int32)))) ^^^ (lus (m3 (m2 (m1 (0 : Int32)))) (31 : Int32)))), (.int (0 : Int32)), (.ref b104)]))
    refine Go.lastore C X104 AA (by decide) (by rw [arr_len]; exact hpos) ge104 d1_59 (fun T106 h106 X106 W106 A106 => ?_)
    show Go p e below s n0 _ _ _ (T106.setTop (mkF m 60 #[.val (.int el), .val (.ref b104), .val (.int (0 : Int32)), .val (.long (m3 (m2 (m1 (0 : Int32))))), .second] []))
    refine Go.st (fun _ => XS.iinc X106.here C.hx rfl (hb C.hby d1_60) rfl (l' := #[.val (.int el), .val (.ref b104), .val (.int (1 : Int32)), .val (.long (m3 (m2 (m1 (0 : Int32))))), .second]) rfl) ?_
    show Go p e below s n0 _ _ _ (T106.setTop (mkF m 63 #[.val (.int el), .val (.ref b104), .val (.int (1 : Int32)), .val (.long (m3 (m2 (m1 (0 : Int32))))), .second] []))
    refine Go.st (fun _ => XS.goto X106.here C.hx rfl (pc0 := 63) (pc' := 16) rfl (hb C.hby d1_63) (by decide) (by decide)) ?_
    show Go p e below s n0 _ _ _ (T106.setTop (mkF m 16 #[.val (.int el), .val (.ref b104), .val (.int (1 : Int32)), .val (.long (m3 (m2 (m1 (0 : Int32))))), .second] []))
    refine loop_keys C el b104 ge104 N h4 (by decide) (by decide) (fun h A => ⟨_, rfl, A⟩) (N - 1) 1 T106 h106 _ (by omega) X106 ?_
    rw [← arr_set (i := 0) hpos h4]
    exact A106
theorem d2_0 : decode method_3_code 0 = .ok (.lload_n 0, 1) := by decide +kernel
theorem d2_1 : decode method_3_code 1 = .ok (.lload_n 0, 1) := by decide +kernel
theorem d2_2 : decode method_3_code 2 = .ok (.bipush 31, 2) := by decide +kernel
theorem d2_4 : decode method_3_code 4 = .ok (.lushr, 1) := by decide +kernel
theorem d2_5 : decode method_3_code 5 = .ok (.lxor, 1) := by decide +kernel
theorem d2_6 : decode method_3_code 6 = .ok (.lload_n 0, 1) := by decide +kernel
theorem d2_7 : decode method_3_code 7 = .ok (.bipush 62, 2) := by decide +kernel
theorem d2_9 : decode method_3_code 9 = .ok (.lushr, 1) := by decide +kernel
theorem d2_10 : decode method_3_code 10 = .ok (.lxor, 1) := by decide +kernel
theorem d2_11 : decode method_3_code 11 = .ok (.lstore_n 2, 1) := by decide +kernel
theorem d2_12 : decode method_3_code 12 = .ok (.lload_n 2, 1) := by decide +kernel
theorem d2_13 : decode method_3_code 13 = .ok (.ldc2_w 21, 3) := by decide +kernel
theorem d2_16 : decode method_3_code 16 = .ok (.lmul, 1) := by decide +kernel
theorem d2_17 : decode method_3_code 17 = .ok (.lstore_n 2, 1) := by decide +kernel
theorem d2_18 : decode method_3_code 18 = .ok (.lload_n 2, 1) := by decide +kernel
theorem d2_19 : decode method_3_code 19 = .ok (.lload_n 2, 1) := by decide +kernel
theorem d2_20 : decode method_3_code 20 = .ok (.bipush 27, 2) := by decide +kernel
theorem d2_22 : decode method_3_code 22 = .ok (.lushr, 1) := by decide +kernel
theorem d2_23 : decode method_3_code 23 = .ok (.lxor, 1) := by decide +kernel
theorem d2_24 : decode method_3_code 24 = .ok (.lload_n 2, 1) := by decide +kernel
theorem d2_25 : decode method_3_code 25 = .ok (.bipush 54, 2) := by decide +kernel
theorem d2_27 : decode method_3_code 27 = .ok (.lushr, 1) := by decide +kernel
theorem d2_28 : decode method_3_code 28 = .ok (.lxor, 1) := by decide +kernel
theorem d2_29 : decode method_3_code 29 = .ok (.lstore_n 2, 1) := by decide +kernel
theorem d2_30 : decode method_3_code 30 = .ok (.lload_n 2, 1) := by decide +kernel
theorem d2_31 : decode method_3_code 31 = .ok (.ldc2_w 23, 3) := by decide +kernel
theorem d2_34 : decode method_3_code 34 = .ok (.lmul, 1) := by decide +kernel
theorem d2_35 : decode method_3_code 35 = .ok (.lstore_n 2, 1) := by decide +kernel
theorem d2_36 : decode method_3_code 36 = .ok (.lload_n 2, 1) := by decide +kernel
theorem d2_37 : decode method_3_code 37 = .ok (.lload_n 2, 1) := by decide +kernel
theorem d2_38 : decode method_3_code 38 = .ok (.bipush 30, 2) := by decide +kernel
theorem d2_40 : decode method_3_code 40 = .ok (.lushr, 1) := by decide +kernel
theorem d2_41 : decode method_3_code 41 = .ok (.lxor, 1) := by decide +kernel
theorem d2_42 : decode method_3_code 42 = .ok (.lload_n 2, 1) := by decide +kernel
theorem d2_43 : decode method_3_code 43 = .ok (.bipush 60, 2) := by decide +kernel
theorem d2_45 : decode method_3_code 45 = .ok (.lushr, 1) := by decide +kernel
theorem d2_46 : decode method_3_code 46 = .ok (.lxor, 1) := by decide +kernel
theorem d2_47 : decode method_3_code 47 = .ok (.lstore_n 2, 1) := by decide +kernel
theorem d2_48 : decode method_3_code 48 = .ok (.lload_n 2, 1) := by decide +kernel
theorem d2_49 : decode method_3_code 49 = .ok (.ldc2_w 25, 3) := by decide +kernel
theorem d2_52 : decode method_3_code 52 = .ok (.lsub, 1) := by decide +kernel
theorem d2_53 : decode method_3_code 53 = .ok (.lreturn, 1) := by decide +kernel
theorem pf_2 : plainFor (⟨"com/example/lattis/lattis/explicit/CutsKeysPinLaw", "unmix", "(J)J"⟩ : MethodName) = true := plainFor_of_name (by first | (simp [plainName, overriddenIn]; done) | decide +kernel)
theorem pd_2 : parseMethodDescriptor "(J)J" = some ⟨[.long], some .long⟩ := by decide +kernel
set_option maxRecDepth 65536 in
set_option maxHeartbeats 40000000 in
theorem con_unmix (l : Launch) (Z : State) (a0 : Array Value) (hw : ∀ d ∈ tables_1, d.before a0 Z = true) (n0 : Nat) (h0 : Heap) (Z0 : n0 ≤ h0.size) (z : Int64)  :
    Con l Z (⟨"com/example/lattis/lattis/explicit/CutsKeysPinLaw", "unmix", "(J)J"⟩ : MethodName) method_3_code 4 (some .long) [] ({ frames := 0, cells := 0, slots := 0, locals := 0 } : Room) n0 #[(.long z)] h0 (fun v h => v = some (.long (unF z)) ∧ h = h0) := by
  refine Con.mk pf_2 hw Z0 ?_
  intro p e s m below meth c T0 C X0
  have ef : entryFrame m #[(.long z)] 4 = mkF m 0 #[.val (.long z), .second, .unset, .unset] [] := by first | (simp [entryFrame, mkF, argsToLocals, Value.category]; done) | rfl
  rw [ef]
  show Go p e below s n0 _ _ _ (T0.setTop (mkF m 0 #[.val (.long z), .second, .unset, .unset] []))
  refine Go.st (fun _ => XS.lloadN X0.here C.hx rfl (hb C.hby d2_0) rfl) ?_
  show Go p e below s n0 _ _ _ (T0.setTop (mkF m 1 #[.val (.long z), .second, .unset, .unset] [(.long z)]))
  refine Go.st (fun _ => XS.lloadN X0.here C.hx rfl (hb C.hby d2_1) rfl) ?_
  show Go p e below s n0 _ _ _ (T0.setTop (mkF m 2 #[.val (.long z), .second, .unset, .unset] [(.long z), (.long z)]))
  refine Go.st (fun _ => XS.bipush X0.here C.hx rfl (hb C.hby d2_2)) ?_
  show Go p e below s n0 _ _ _ (T0.setTop (mkF m 4 #[.val (.long z), .second, .unset, .unset] [(.int (31 : Int32)), (.long z), (.long z)]))
  refine Go.st (fun _ => XS.lushr X0.here C.hx rfl (hb C.hby d2_4) rfl) ?_
  show Go p e below s n0 _ _ _ (T0.setTop (mkF m 5 #[.val (.long z), .second, .unset, .unset] [(.long (lus z (31 : Int32))), (.long z)]))
  refine Go.st (fun _ => XS.lxor X0.here C.hx rfl (hb C.hby d2_5) rfl) ?_
  show Go p e below s n0 _ _ _ (T0.setTop (mkF m 6 #[.val (.long z), .second, .unset, .unset] [(.long (z ^^^ (lus z (31 : Int32))))]))
  refine Go.st (fun _ => XS.lloadN X0.here C.hx rfl (hb C.hby d2_6) rfl) ?_
  show Go p e below s n0 _ _ _ (T0.setTop (mkF m 7 #[.val (.long z), .second, .unset, .unset] [(.long z), (.long (z ^^^ (lus z (31 : Int32))))]))
  refine Go.st (fun _ => XS.bipush X0.here C.hx rfl (hb C.hby d2_7)) ?_
  show Go p e below s n0 _ _ _ (T0.setTop (mkF m 9 #[.val (.long z), .second, .unset, .unset] [(.int (62 : Int32)), (.long z), (.long (z ^^^ (lus z (31 : Int32))))]))
  refine Go.st (fun _ => XS.lushr X0.here C.hx rfl (hb C.hby d2_9) rfl) ?_
  show Go p e below s n0 _ _ _ (T0.setTop (mkF m 10 #[.val (.long z), .second, .unset, .unset] [(.long (lus z (62 : Int32))), (.long (z ^^^ (lus z (31 : Int32))))]))
  refine Go.st (fun _ => XS.lxor X0.here C.hx rfl (hb C.hby d2_10) rfl) ?_
  show Go p e below s n0 _ _ _ (T0.setTop (mkF m 11 #[.val (.long z), .second, .unset, .unset] [(.long ((z ^^^ (lus z (31 : Int32))) ^^^ (lus z (62 : Int32))))]))
  refine Go.st (fun _ => XS.lstoreN X0.here C.hx rfl (hb C.hby d2_11) rfl (l' := #[.val (.long z), .second, .val (.long (u1 z)), .second]) rfl) ?_
  show Go p e below s n0 _ _ _ (T0.setTop (mkF m 12 #[.val (.long z), .second, .val (.long (u1 z)), .second] []))
  refine Go.st (fun _ => XS.lloadN X0.here C.hx rfl (hb C.hby d2_12) rfl) ?_
  show Go p e below s n0 _ _ _ (T0.setTop (mkF m 13 #[.val (.long z), .second, .val (.long (u1 z)), .second] [(.long (u1 z))]))
  refine Go.ldcJ C X0 (wd 14 rfl) d2_13 ?_
  show Go p e below s n0 _ _ _ (T0.setTop (mkF m 16 #[.val (.long z), .second, .val (.long (u1 z)), .second] [(.long (3573116690164977347 : Int64)), (.long (u1 z))]))
  refine Go.st (fun _ => XS.lmul X0.here C.hx rfl (hb C.hby d2_16) rfl) ?_
  show Go p e below s n0 _ _ _ (T0.setTop (mkF m 17 #[.val (.long z), .second, .val (.long (u1 z)), .second] [(.long ((u1 z) * (3573116690164977347 : Int64)))]))
  refine Go.st (fun _ => XS.lstoreN X0.here C.hx rfl (hb C.hby d2_17) rfl (l' := #[.val (.long z), .second, .val (.long (u1 z * (3573116690164977347 : Int64))), .second]) rfl) ?_
  show Go p e below s n0 _ _ _ (T0.setTop (mkF m 18 #[.val (.long z), .second, .val (.long (u1 z * (3573116690164977347 : Int64))), .second] []))
  refine Go.st (fun _ => XS.lloadN X0.here C.hx rfl (hb C.hby d2_18) rfl) ?_
  show Go p e below s n0 _ _ _ (T0.setTop (mkF m 19 #[.val (.long z), .second, .val (.long (u1 z * (3573116690164977347 : Int64))), .second] [(.long (u1 z * (3573116690164977347 : Int64)))]))
  refine Go.st (fun _ => XS.lloadN X0.here C.hx rfl (hb C.hby d2_19) rfl) ?_
  show Go p e below s n0 _ _ _ (T0.setTop (mkF m 20 #[.val (.long z), .second, .val (.long (u1 z * (3573116690164977347 : Int64))), .second] [(.long (u1 z * (3573116690164977347 : Int64))), (.long (u1 z * (3573116690164977347 : Int64)))]))
  refine Go.st (fun _ => XS.bipush X0.here C.hx rfl (hb C.hby d2_20)) ?_
  show Go p e below s n0 _ _ _ (T0.setTop (mkF m 22 #[.val (.long z), .second, .val (.long (u1 z * (3573116690164977347 : Int64))), .second] [(.int (27 : Int32)), (.long (u1 z * (3573116690164977347 : Int64))), (.long (u1 z * (3573116690164977347 : Int64)))]))
  refine Go.st (fun _ => XS.lushr X0.here C.hx rfl (hb C.hby d2_22) rfl) ?_
  show Go p e below s n0 _ _ _ (T0.setTop (mkF m 23 #[.val (.long z), .second, .val (.long (u1 z * (3573116690164977347 : Int64))), .second] [(.long (lus (u1 z * (3573116690164977347 : Int64)) (27 : Int32))), (.long (u1 z * (3573116690164977347 : Int64)))]))
  refine Go.st (fun _ => XS.lxor X0.here C.hx rfl (hb C.hby d2_23) rfl) ?_
  show Go p e below s n0 _ _ _ (T0.setTop (mkF m 24 #[.val (.long z), .second, .val (.long (u1 z * (3573116690164977347 : Int64))), .second] [(.long ((u1 z * (3573116690164977347 : Int64)) ^^^ (lus (u1 z * (3573116690164977347 : Int64)) (27 : Int32))))]))
  refine Go.st (fun _ => XS.lloadN X0.here C.hx rfl (hb C.hby d2_24) rfl) ?_
  show Go p e below s n0 _ _ _ (T0.setTop (mkF m 25 #[.val (.long z), .second, .val (.long (u1 z * (3573116690164977347 : Int64))), .second] [(.long (u1 z * (3573116690164977347 : Int64))), (.long ((u1 z * (3573116690164977347 : Int64)) ^^^ (lus (u1 z * (3573116690164977347 : Int64)) (27 : Int32))))]))
  refine Go.st (fun _ => XS.bipush X0.here C.hx rfl (hb C.hby d2_25)) ?_
  show Go p e below s n0 _ _ _ (T0.setTop (mkF m 27 #[.val (.long z), .second, .val (.long (u1 z * (3573116690164977347 : Int64))), .second] [(.int (54 : Int32)), (.long (u1 z * (3573116690164977347 : Int64))), (.long ((u1 z * (3573116690164977347 : Int64)) ^^^ (lus (u1 z * (3573116690164977347 : Int64)) (27 : Int32))))]))
  refine Go.st (fun _ => XS.lushr X0.here C.hx rfl (hb C.hby d2_27) rfl) ?_
  show Go p e below s n0 _ _ _ (T0.setTop (mkF m 28 #[.val (.long z), .second, .val (.long (u1 z * (3573116690164977347 : Int64))), .second] [(.long (lus (u1 z * (3573116690164977347 : Int64)) (54 : Int32))), (.long ((u1 z * (3573116690164977347 : Int64)) ^^^ (lus (u1 z * (3573116690164977347 : Int64)) (27 : Int32))))]))
  refine Go.st (fun _ => XS.lxor X0.here C.hx rfl (hb C.hby d2_28) rfl) ?_
  show Go p e below s n0 _ _ _ (T0.setTop (mkF m 29 #[.val (.long z), .second, .val (.long (u1 z * (3573116690164977347 : Int64))), .second] [(.long (((u1 z * (3573116690164977347 : Int64)) ^^^ (lus (u1 z * (3573116690164977347 : Int64)) (27 : Int32))) ^^^ (lus (u1 z * (3573116690164977347 : Int64)) (54 : Int32))))]))
  refine Go.st (fun _ => XS.lstoreN X0.here C.hx rfl (hb C.hby d2_29) rfl (l' := #[.val (.long z), .second, .val (.long (u2 (u1 z * (3573116690164977347 : Int64)))), .second]) rfl) ?_
  show Go p e below s n0 _ _ _ (T0.setTop (mkF m 30 #[.val (.long z), .second, .val (.long (u2 (u1 z * (3573116690164977347 : Int64)))), .second] []))
  refine Go.st (fun _ => XS.lloadN X0.here C.hx rfl (hb C.hby d2_30) rfl) ?_
  show Go p e below s n0 _ _ _ (T0.setTop (mkF m 31 #[.val (.long z), .second, .val (.long (u2 (u1 z * (3573116690164977347 : Int64)))), .second] [(.long (u2 (u1 z * (3573116690164977347 : Int64))))]))
  refine Go.ldcJ C X0 (wd 15 rfl) d2_31 ?_
  show Go p e below s n0 _ _ _ (T0.setTop (mkF m 34 #[.val (.long z), .second, .val (.long (u2 (u1 z * (3573116690164977347 : Int64)))), .second] [(.long (-7575587736534282103 : Int64)), (.long (u2 (u1 z * (3573116690164977347 : Int64))))]))
  refine Go.st (fun _ => XS.lmul X0.here C.hx rfl (hb C.hby d2_34) rfl) ?_
  show Go p e below s n0 _ _ _ (T0.setTop (mkF m 35 #[.val (.long z), .second, .val (.long (u2 (u1 z * (3573116690164977347 : Int64)))), .second] [(.long ((u2 (u1 z * (3573116690164977347 : Int64))) * (-7575587736534282103 : Int64)))]))
  refine Go.st (fun _ => XS.lstoreN X0.here C.hx rfl (hb C.hby d2_35) rfl (l' := #[.val (.long z), .second, .val (.long (u2 (u1 z * (3573116690164977347 : Int64)) * (-7575587736534282103 : Int64))), .second]) rfl) ?_
  show Go p e below s n0 _ _ _ (T0.setTop (mkF m 36 #[.val (.long z), .second, .val (.long (u2 (u1 z * (3573116690164977347 : Int64)) * (-7575587736534282103 : Int64))), .second] []))
  refine Go.st (fun _ => XS.lloadN X0.here C.hx rfl (hb C.hby d2_36) rfl) ?_
  show Go p e below s n0 _ _ _ (T0.setTop (mkF m 37 #[.val (.long z), .second, .val (.long (u2 (u1 z * (3573116690164977347 : Int64)) * (-7575587736534282103 : Int64))), .second] [(.long (u2 (u1 z * (3573116690164977347 : Int64)) * (-7575587736534282103 : Int64)))]))
  refine Go.st (fun _ => XS.lloadN X0.here C.hx rfl (hb C.hby d2_37) rfl) ?_
  show Go p e below s n0 _ _ _ (T0.setTop (mkF m 38 #[.val (.long z), .second, .val (.long (u2 (u1 z * (3573116690164977347 : Int64)) * (-7575587736534282103 : Int64))), .second] [(.long (u2 (u1 z * (3573116690164977347 : Int64)) * (-7575587736534282103 : Int64))), (.long (u2 (u1 z * (3573116690164977347 : Int64)) * (-7575587736534282103 : Int64)))]))
  refine Go.st (fun _ => XS.bipush X0.here C.hx rfl (hb C.hby d2_38)) ?_
  show Go p e below s n0 _ _ _ (T0.setTop (mkF m 40 #[.val (.long z), .second, .val (.long (u2 (u1 z * (3573116690164977347 : Int64)) * (-7575587736534282103 : Int64))), .second] [(.int (30 : Int32)), (.long (u2 (u1 z * (3573116690164977347 : Int64)) * (-7575587736534282103 : Int64))), (.long (u2 (u1 z * (3573116690164977347 : Int64)) * (-7575587736534282103 : Int64)))]))
  refine Go.st (fun _ => XS.lushr X0.here C.hx rfl (hb C.hby d2_40) rfl) ?_
  show Go p e below s n0 _ _ _ (T0.setTop (mkF m 41 #[.val (.long z), .second, .val (.long (u2 (u1 z * (3573116690164977347 : Int64)) * (-7575587736534282103 : Int64))), .second] [(.long (lus (u2 (u1 z * (3573116690164977347 : Int64)) * (-7575587736534282103 : Int64)) (30 : Int32))), (.long (u2 (u1 z * (3573116690164977347 : Int64)) * (-7575587736534282103 : Int64)))]))
  refine Go.st (fun _ => XS.lxor X0.here C.hx rfl (hb C.hby d2_41) rfl) ?_
  show Go p e below s n0 _ _ _ (T0.setTop (mkF m 42 #[.val (.long z), .second, .val (.long (u2 (u1 z * (3573116690164977347 : Int64)) * (-7575587736534282103 : Int64))), .second] [(.long ((u2 (u1 z * (3573116690164977347 : Int64)) * (-7575587736534282103 : Int64)) ^^^ (lus (u2 (u1 z * (3573116690164977347 : Int64)) * (-7575587736534282103 : Int64)) (30 : Int32))))]))
  refine Go.st (fun _ => XS.lloadN X0.here C.hx rfl (hb C.hby d2_42) rfl) ?_
  show Go p e below s n0 _ _ _ (T0.setTop (mkF m 43 #[.val (.long z), .second, .val (.long (u2 (u1 z * (3573116690164977347 : Int64)) * (-7575587736534282103 : Int64))), .second] [(.long (u2 (u1 z * (3573116690164977347 : Int64)) * (-7575587736534282103 : Int64))), (.long ((u2 (u1 z * (3573116690164977347 : Int64)) * (-7575587736534282103 : Int64)) ^^^ (lus (u2 (u1 z * (3573116690164977347 : Int64)) * (-7575587736534282103 : Int64)) (30 : Int32))))]))
  refine Go.st (fun _ => XS.bipush X0.here C.hx rfl (hb C.hby d2_43)) ?_
  show Go p e below s n0 _ _ _ (T0.setTop (mkF m 45 #[.val (.long z), .second, .val (.long (u2 (u1 z * (3573116690164977347 : Int64)) * (-7575587736534282103 : Int64))), .second] [(.int (60 : Int32)), (.long (u2 (u1 z * (3573116690164977347 : Int64)) * (-7575587736534282103 : Int64))), (.long ((u2 (u1 z * (3573116690164977347 : Int64)) * (-7575587736534282103 : Int64)) ^^^ (lus (u2 (u1 z * (3573116690164977347 : Int64)) * (-7575587736534282103 : Int64)) (30 : Int32))))]))
  refine Go.st (fun _ => XS.lushr X0.here C.hx rfl (hb C.hby d2_45) rfl) ?_
  show Go p e below s n0 _ _ _ (T0.setTop (mkF m 46 #[.val (.long z), .second, .val (.long (u2 (u1 z * (3573116690164977347 : Int64)) * (-7575587736534282103 : Int64))), .second] [(.long (lus (u2 (u1 z * (3573116690164977347 : Int64)) * (-7575587736534282103 : Int64)) (60 : Int32))), (.long ((u2 (u1 z * (3573116690164977347 : Int64)) * (-7575587736534282103 : Int64)) ^^^ (lus (u2 (u1 z * (3573116690164977347 : Int64)) * (-7575587736534282103 : Int64)) (30 : Int32))))]))
  refine Go.st (fun _ => XS.lxor X0.here C.hx rfl (hb C.hby d2_46) rfl) ?_
  show Go p e below s n0 _ _ _ (T0.setTop (mkF m 47 #[.val (.long z), .second, .val (.long (u2 (u1 z * (3573116690164977347 : Int64)) * (-7575587736534282103 : Int64))), .second] [(.long (((u2 (u1 z * (3573116690164977347 : Int64)) * (-7575587736534282103 : Int64)) ^^^ (lus (u2 (u1 z * (3573116690164977347 : Int64)) * (-7575587736534282103 : Int64)) (30 : Int32))) ^^^ (lus (u2 (u1 z * (3573116690164977347 : Int64)) * (-7575587736534282103 : Int64)) (60 : Int32))))]))
  refine Go.st (fun _ => XS.lstoreN X0.here C.hx rfl (hb C.hby d2_47) rfl (l' := #[.val (.long z), .second, .val (.long (u3 (u2 (u1 z * (3573116690164977347 : Int64)) * (-7575587736534282103 : Int64)))), .second]) rfl) ?_
  show Go p e below s n0 _ _ _ (T0.setTop (mkF m 48 #[.val (.long z), .second, .val (.long (u3 (u2 (u1 z * (3573116690164977347 : Int64)) * (-7575587736534282103 : Int64)))), .second] []))
  refine Go.st (fun _ => XS.lloadN X0.here C.hx rfl (hb C.hby d2_48) rfl) ?_
  show Go p e below s n0 _ _ _ (T0.setTop (mkF m 49 #[.val (.long z), .second, .val (.long (u3 (u2 (u1 z * (3573116690164977347 : Int64)) * (-7575587736534282103 : Int64)))), .second] [(.long (u3 (u2 (u1 z * (3573116690164977347 : Int64)) * (-7575587736534282103 : Int64))))]))
  refine Go.ldcJ C X0 (wd 16 rfl) d2_49 ?_
  show Go p e below s n0 _ _ _ (T0.setTop (mkF m 52 #[.val (.long z), .second, .val (.long (u3 (u2 (u1 z * (3573116690164977347 : Int64)) * (-7575587736534282103 : Int64)))), .second] [(.long (-7046029254386353131 : Int64)), (.long (u3 (u2 (u1 z * (3573116690164977347 : Int64)) * (-7575587736534282103 : Int64))))]))
  refine Go.st (fun _ => XS.lsub X0.here C.hx rfl (hb C.hby d2_52) rfl) ?_
  show Go p e below s n0 _ _ _ (T0.setTop (mkF m 53 #[.val (.long z), .second, .val (.long (u3 (u2 (u1 z * (3573116690164977347 : Int64)) * (-7575587736534282103 : Int64)))), .second] [(.long ((u3 (u2 (u1 z * (3573116690164977347 : Int64)) * (-7575587736534282103 : Int64))) - (-7046029254386353131 : Int64)))]))
  exact Go.retJ C X0 d2_53 ⟨rfl, rfl⟩ (by decide) (by decide)
theorem pf_0 : plainFor x = true := plainFor_of_name (by first | (simp [plainName, overriddenIn]; done) | decide +kernel)
theorem pd_0 : parseMethodDescriptor "(II)Z" = some ⟨[.int, .int], some .boolean⟩ := by decide +kernel
set_option maxRecDepth 65536 in
set_option maxHeartbeats 40000000 in
theorem con_law (l : Launch) (Z : State) (a0 : Array Value) (hw : ∀ d ∈ tables_1, d.before a0 Z = true) (n0 : Nat) (h0 : Heap) (Z0 : n0 ≤ h0.size) (nn pk : Int32)  :
    Con l Z x code maxLocals ret tables_1 room_1 n0 #[(.int nn), (.int pk)] h0 (fun v h => v = some (.int 1)) := by
  refine Con.mk pf_0 hw Z0 ?_
  intro p e s m below meth c T0 C X0
  have ef : entryFrame m #[(.int nn), (.int pk)] maxLocals = mkF m 0 #[.val (.int nn), .val (.int pk), .unset, .unset, .unset, .unset, .unset] [] := by first | (simp [entryFrame, mkF, argsToLocals, Value.category, maxLocals]; done) | rfl
  rw [ef]
  obtain ⟨hk1, hk2, hk3⟩ := KLok nn
  show Go p e below s n0 _ _ _ (T0.setTop (mkF m 0 #[.val (.int nn), .val (.int pk), .unset, .unset, .unset, .unset, .unset] []))
  refine Go.st (fun _ => XS.iloadN X0.here C.hx rfl (hb C.hby at_0) rfl) ?_
  show Go p e below s n0 _ _ _ (T0.setTop (mkF m 1 #[.val (.int nn), .val (.int pk), .unset, .unset, .unset, .unset, .unset] [(.int nn)]))
  refine Go.ldcI C X0 (wd 0 rfl) at_1 ?_
  show Go p e below s n0 _ _ _ (T0.setTop (mkF m 3 #[.val (.int nn), .val (.int pk), .unset, .unset, .unset, .unset, .unset] [(.int (65535 : Int32)), (.int nn)]))
  refine Go.st (fun _ => XS.iand X0.here C.hx rfl (hb C.hby at_3) rfl) ?_
  show Go p e below s n0 _ _ _ (T0.setTop (mkF m 4 #[.val (.int nn), .val (.int pk), .unset, .unset, .unset, .unset, .unset] [(.int (nn &&& (65535 : Int32)))]))
  generalize hg_el : (nn &&& (65535 : Int32)) = el
  refine Go.st (fun _ => XS.istoreN X0.here C.hx rfl (hb C.hby at_4) rfl (l' := #[.val (.int nn), .val (.int pk), .val (.int el), .unset, .unset, .unset, .unset]) rfl) ?_
  rw [hg_el] at hk1 hk2 hk3
  obtain ⟨N, hN⟩ : ∃ N, (KL el).toNatClampNeg = N := ⟨_, rfl⟩
  have hN4 : N ≤ 4096 := by rw [← hN]; exact hk2
  have hNz : N.toInt32 = KL el := by rw [← hN]; exact (back32 hk1).1
  show Go p e below s n0 _ _ _ (T0.setTop (mkF m 5 #[.val (.int nn), .val (.int pk), .val (.int el), .unset, .unset, .unset, .unset] []))
  refine Go.st (fun _ => XS.iloadN X0.here C.hx rfl (hb C.hby at_5) rfl) ?_
  show Go p e below s n0 _ _ _ (T0.setTop (mkF m 6 #[.val (.int nn), .val (.int pk), .val (.int el), .unset, .unset, .unset, .unset] [(.int el)]))
  refine Go.callS C X0 (W := 0) (argsL := [(.int el)]) (rest := []) (wd 1 rfl) (wd 2 rfl) (wd 3 rfl) (wd 4 rfl) (by decide) (con_keys l Z a0 hw n0 h0 X0.size el N hN hk1 hN4) (by decide) (by decide) rfl (lenOf pd_1 rfl) (Nat.le_of_ble_eq_true rfl) rfl at_6 (by decide) (by decide) (fun T107 h107 v107 X107 hQ107 => ?_)
  obtain ⟨b107, rfl, A107⟩ := hQ107
  show Go p e below s n0 _ _ _ (T107.setTop (mkF m 9 #[.val (.int nn), .val (.int pk), .val (.int el), .unset, .unset, .unset, .unset] [(.ref b107)]))
  refine Go.st (fun _ => XS.astoreN X107.here C.hx rfl (hb C.hby at_9) rfl rfl (l' := #[.val (.int nn), .val (.int pk), .val (.int el), .val (.ref b107), .unset, .unset, .unset]) rfl) ?_
  show Go p e below s n0 _ _ _ (T107.setTop (mkF m 10 #[.val (.int nn), .val (.int pk), .val (.int el), .val (.ref b107), .unset, .unset, .unset] []))
  refine Go.st (fun _ => XS.iloadN X107.here C.hx rfl (hb C.hby at_10) rfl) ?_
  show Go p e below s n0 _ _ _ (T107.setTop (mkF m 11 #[.val (.int nn), .val (.int pk), .val (.int el), .val (.ref b107), .unset, .unset, .unset] [(.int el)]))
  refine Go.st (fun _ => XS.bipush X107.here C.hx rfl (hb C.hby at_11)) ?_
  show Go p e below s n0 _ _ _ (T107.setTop (mkF m 13 #[.val (.int nn), .val (.int pk), .val (.int el), .val (.ref b107), .unset, .unset, .unset] [(.int (6 : Int32)), (.int el)]))
  refine Go.st (fun _ => XS.iushr X107.here C.hx rfl (hb C.hby at_13) rfl) ?_
  show Go p e below s n0 _ _ _ (T107.setTop (mkF m 14 #[.val (.int nn), .val (.int pk), .val (.int el), .val (.ref b107), .unset, .unset, .unset] [(.int (ius el (6 : Int32)))]))
  refine Go.st (fun _ => XS.iloadN X107.here C.hx rfl (hb C.hby at_14) rfl) ?_
  show Go p e below s n0 _ _ _ (T107.setTop (mkF m 15 #[.val (.int nn), .val (.int pk), .val (.int el), .val (.ref b107), .unset, .unset, .unset] [(.int el), (.int (ius el (6 : Int32)))]))
  refine Go.st (fun _ => XS.bipush X107.here C.hx rfl (hb C.hby at_15)) ?_
  show Go p e below s n0 _ _ _ (T107.setTop (mkF m 17 #[.val (.int nn), .val (.int pk), .val (.int el), .val (.ref b107), .unset, .unset, .unset] [(.int (63 : Int32)), (.int el), (.int (ius el (6 : Int32)))]))
  refine Go.st (fun _ => XS.iand X107.here C.hx rfl (hb C.hby at_17) rfl) ?_
  show Go p e below s n0 _ _ _ (T107.setTop (mkF m 18 #[.val (.int nn), .val (.int pk), .val (.int el), .val (.ref b107), .unset, .unset, .unset] [(.int (el &&& (63 : Int32))), (.int (ius el (6 : Int32)))]))
  refine Go.if_eq C X107 (pc' := 25) at_18 (by decide) (by decide) (fun hc18_108 => ?_) (fun hc18_108 => ?_)
  · show Go p e below s n0 _ _ _ (T107.setTop (mkF m 25 #[.val (.int nn), .val (.int pk), .val (.int el), .val (.ref b107), .unset, .unset, .unset] [(.int (ius el (6 : Int32)))]))
    refine Go.st (fun _ => XS.iconst X107.here C.hx rfl (hb C.hby at_25)) ?_
    show Go p e below s n0 _ _ _ (T107.setTop (mkF m 26 #[.val (.int nn), .val (.int pk), .val (.int el), .val (.ref b107), .unset, .unset, .unset] [(.int (0 : Int32)), (.int (ius el (6 : Int32)))]))
    refine Go.st (fun _ => XS.iadd X107.here C.hx rfl (hb C.hby at_26) rfl) ?_
    show Go p e below s n0 _ _ _ (T107.setTop (mkF m 27 #[.val (.int nn), .val (.int pk), .val (.int el), .val (.ref b107), .unset, .unset, .unset] [(.int ((ius el (6 : Int32)) + (0 : Int32)))]))
    refine Go.st (fun _ => XS.istore X107.here C.hx rfl (hb C.hby at_27) rfl (l' := #[.val (.int nn), .val (.int pk), .val (.int el), .val (.ref b107), .val (.int ((ius el (6 : Int32)) + (0 : Int32))), .unset, .unset]) rfl) ?_
    show Go p e below s n0 _ _ _ (T107.setTop (mkF m 29 #[.val (.int nn), .val (.int pk), .val (.int el), .val (.ref b107), .val (.int ((ius el (6 : Int32)) + (0 : Int32))), .unset, .unset] []))
    refine Go.st (fun _ => XS.aloadN X107.here C.hx rfl (hb C.hby at_29) rfl rfl) ?_
    show Go p e below s n0 _ _ _ (T107.setTop (mkF m 30 #[.val (.int nn), .val (.int pk), .val (.int el), .val (.ref b107), .val (.int ((ius el (6 : Int32)) + (0 : Int32))), .unset, .unset] [(.ref b107)]))
    refine Go.alen C X107 A107 (z := N.toInt32) (by rw [arr_len]) at_30 ?_
    show Go p e below s n0 _ _ _ (T107.setTop (mkF m 31 #[.val (.int nn), .val (.int pk), .val (.int el), .val (.ref b107), .val (.int ((ius el (6 : Int32)) + (0 : Int32))), .unset, .unset] [(.int N.toInt32)]))
    refine Go.st (fun _ => XS.iconst X107.here C.hx rfl (hb C.hby at_31)) ?_
    show Go p e below s n0 _ _ _ (T107.setTop (mkF m 32 #[.val (.int nn), .val (.int pk), .val (.int el), .val (.ref b107), .val (.int ((ius el (6 : Int32)) + (0 : Int32))), .unset, .unset] [(.int (4 : Int32)), (.int N.toInt32)]))
    refine Go.st (fun _ => XS.iload X107.here C.hx rfl (hb C.hby at_32) rfl) ?_
    show Go p e below s n0 _ _ _ (T107.setTop (mkF m 34 #[.val (.int nn), .val (.int pk), .val (.int el), .val (.ref b107), .val (.int ((ius el (6 : Int32)) + (0 : Int32))), .unset, .unset] [(.int ((ius el (6 : Int32)) + (0 : Int32))), (.int (4 : Int32)), (.int N.toInt32)]))
    refine Go.st (fun _ => XS.imul X107.here C.hx rfl (hb C.hby at_34) rfl) ?_
    show Go p e below s n0 _ _ _ (T107.setTop (mkF m 35 #[.val (.int nn), .val (.int pk), .val (.int el), .val (.ref b107), .val (.int ((ius el (6 : Int32)) + (0 : Int32))), .unset, .unset] [(.int ((4 : Int32) * ((ius el (6 : Int32)) + (0 : Int32)))), (.int N.toInt32)]))
    refine Go.icmp_eq C X107 (pc' := 40) at_35 (by decide) (by decide) (fun _ => ?_) (fun hc => by first | exact absurd hc (show N.toInt32 = ((4 : Int32) * ((ius el (6 : Int32)) + (0 : Int32))) from by rw [hNz]; exact hk3.trans (by simp [hc18_108])) | exact absurd (show N.toInt32 = ((4 : Int32) * ((ius el (6 : Int32)) + (0 : Int32))) from by rw [hNz]; exact hk3.trans (by simp [hc18_108])) hc)
    show Go p e below s n0 _ _ _ (T107.setTop (mkF m 40 #[.val (.int nn), .val (.int pk), .val (.int el), .val (.ref b107), .val (.int ((ius el (6 : Int32)) + (0 : Int32))), .unset, .unset] []))
    refine Go.st (fun _ => XS.aloadN X107.here C.hx rfl (hb C.hby at_40) rfl rfl) ?_
    show Go p e below s n0 _ _ _ (T107.setTop (mkF m 41 #[.val (.int nn), .val (.int pk), .val (.int el), .val (.ref b107), .val (.int ((ius el (6 : Int32)) + (0 : Int32))), .unset, .unset] [(.ref b107)]))
    refine Go.alen C X107 A107 (z := N.toInt32) (by rw [arr_len]) at_41 ?_
    show Go p e below s n0 _ _ _ (T107.setTop (mkF m 42 #[.val (.int nn), .val (.int pk), .val (.int el), .val (.ref b107), .val (.int ((ius el (6 : Int32)) + (0 : Int32))), .unset, .unset] [(.int N.toInt32)]))
    refine Go.if_ne C X107 (pc' := 47) at_42 (by decide) (by decide) (fun hc42_110 => ?_) (fun hc42_110 => ?_)
    · have hne : ¬ N.toInt32 = 0 := hc42_110
      show Go p e below s n0 _ _ _ (T107.setTop (mkF m 47 #[.val (.int nn), .val (.int pk), .val (.int el), .val (.ref b107), .val (.int ((ius el (6 : Int32)) + (0 : Int32))), .unset, .unset] []))
      refine Go.st (fun _ => XS.iloadN X107.here C.hx rfl (hb C.hby at_47) rfl) ?_
      show Go p e below s n0 _ _ _ (T107.setTop (mkF m 48 #[.val (.int nn), .val (.int pk), .val (.int el), .val (.ref b107), .val (.int ((ius el (6 : Int32)) + (0 : Int32))), .unset, .unset] [(.int pk)]))
      refine Go.ldcI C X107 (wd 9 rfl) at_48 ?_
      show Go p e below s n0 _ _ _ (T107.setTop (mkF m 50 #[.val (.int nn), .val (.int pk), .val (.int el), .val (.ref b107), .val (.int ((ius el (6 : Int32)) + (0 : Int32))), .unset, .unset] [(.int (2147483647 : Int32)), (.int pk)]))
      refine Go.st (fun _ => XS.iand X107.here C.hx rfl (hb C.hby at_50) rfl) ?_
      show Go p e below s n0 _ _ _ (T107.setTop (mkF m 51 #[.val (.int nn), .val (.int pk), .val (.int el), .val (.ref b107), .val (.int ((ius el (6 : Int32)) + (0 : Int32))), .unset, .unset] [(.int (pk &&& (2147483647 : Int32)))]))
      refine Go.st (fun _ => XS.aloadN X107.here C.hx rfl (hb C.hby at_51) rfl rfl) ?_
      show Go p e below s n0 _ _ _ (T107.setTop (mkF m 52 #[.val (.int nn), .val (.int pk), .val (.int el), .val (.ref b107), .val (.int ((ius el (6 : Int32)) + (0 : Int32))), .unset, .unset] [(.ref b107), (.int (pk &&& (2147483647 : Int32)))]))
      refine Go.alen C X107 A107 (z := N.toInt32) (by rw [arr_len]) at_52 ?_
      show Go p e below s n0 _ _ _ (T107.setTop (mkF m 53 #[.val (.int nn), .val (.int pk), .val (.int el), .val (.ref b107), .val (.int ((ius el (6 : Int32)) + (0 : Int32))), .unset, .unset] [(.int N.toInt32), (.int (pk &&& (2147483647 : Int32)))]))
      refine Go.irem C X107 hne at_53 ?_
      show Go p e below s n0 _ _ _ (T107.setTop (mkF m 54 #[.val (.int nn), .val (.int pk), .val (.int el), .val (.ref b107), .val (.int ((ius el (6 : Int32)) + (0 : Int32))), .unset, .unset] [(.int ((pk &&& (2147483647 : Int32)) % N.toInt32))]))
      generalize hg_ix : ((pk &&& (2147483647 : Int32)) % N.toInt32) = ix
      refine Go.st (fun _ => XS.istore X107.here C.hx rfl (hb C.hby at_54) rfl (l' := #[.val (.int nn), .val (.int pk), .val (.int el), .val (.ref b107), .val (.int ((ius el (6 : Int32)) + (0 : Int32))), .val (.int ix), .unset]) rfl) ?_
      show Go p e below s n0 _ _ _ (T107.setTop (mkF m 56 #[.val (.int nn), .val (.int pk), .val (.int el), .val (.ref b107), .val (.int ((ius el (6 : Int32)) + (0 : Int32))), .val (.int ix), .unset] []))
      refine Go.st (fun _ => XS.aloadN X107.here C.hx rfl (hb C.hby at_56) rfl rfl) ?_
      show Go p e below s n0 _ _ _ (T107.setTop (mkF m 57 #[.val (.int nn), .val (.int pk), .val (.int el), .val (.ref b107), .val (.int ((ius el (6 : Int32)) + (0 : Int32))), .val (.int ix), .unset] [(.ref b107)]))
      refine Go.alen C X107 A107 (z := N.toInt32) (by rw [arr_len]) at_57 ?_
      show Go p e below s n0 _ _ _ (T107.setTop (mkF m 58 #[.val (.int nn), .val (.int pk), .val (.int el), .val (.ref b107), .val (.int ((ius el (6 : Int32)) + (0 : Int32))), .val (.int ix), .unset] [(.int N.toInt32)]))
      refine Go.st (fun _ => XS.iconst X107.here C.hx rfl (hb C.hby at_58)) ?_
      show Go p e below s n0 _ _ _ (T107.setTop (mkF m 59 #[.val (.int nn), .val (.int pk), .val (.int el), .val (.ref b107), .val (.int ((ius el (6 : Int32)) + (0 : Int32))), .val (.int ix), .unset] [(.int (1 : Int32)), (.int N.toInt32)]))
      refine Go.st (fun _ => XS.isub X107.here C.hx rfl (hb C.hby at_59) rfl) ?_
      show Go p e below s n0 _ _ _ (T107.setTop (mkF m 60 #[.val (.int nn), .val (.int pk), .val (.int el), .val (.ref b107), .val (.int ((ius el (6 : Int32)) + (0 : Int32))), .val (.int ix), .unset] [(.int (N.toInt32 - (1 : Int32)))]))
      generalize hg_lx : (N.toInt32 - (1 : Int32)) = lx
      refine Go.st (fun _ => XS.istore X107.here C.hx rfl (hb C.hby at_60) rfl (l' := #[.val (.int nn), .val (.int pk), .val (.int el), .val (.ref b107), .val (.int ((ius el (6 : Int32)) + (0 : Int32))), .val (.int ix), .val (.int lx)]) rfl) ?_
      show Go p e below s n0 _ _ _ (T107.setTop (mkF m 62 #[.val (.int nn), .val (.int pk), .val (.int el), .val (.ref b107), .val (.int ((ius el (6 : Int32)) + (0 : Int32))), .val (.int ix), .val (.int lx)] []))
      refine Go.st (fun _ => XS.aloadN X107.here C.hx rfl (hb C.hby at_62) rfl rfl) ?_
      show Go p e below s n0 _ _ _ (T107.setTop (mkF m 63 #[.val (.int nn), .val (.int pk), .val (.int el), .val (.ref b107), .val (.int ((ius el (6 : Int32)) + (0 : Int32))), .val (.int ix), .val (.int lx)] [(.ref b107)]))
      refine Go.st (fun _ => XS.iload X107.here C.hx rfl (hb C.hby at_63) rfl) ?_
      show Go p e below s n0 _ _ _ (T107.setTop (mkF m 65 #[.val (.int nn), .val (.int pk), .val (.int el), .val (.ref b107), .val (.int ((ius el (6 : Int32)) + (0 : Int32))), .val (.int ix), .val (.int lx)] [(.int ix), (.ref b107)]))
      refine Go.laload C X107 A107 (ixok hN4 hne hg_ix).1 (arr_get hN4 (ixok hN4 hne hg_ix)) at_65 ?_
      show Go p e below s n0 _ _ _ (T107.setTop (mkF m 66 #[.val (.int nn), .val (.int pk), .val (.int el), .val (.ref b107), .val (.int ((ius el (6 : Int32)) + (0 : Int32))), .val (.int ix), .val (.int lx)] [(.long (mixF ix))]))
      refine Go.callS C X107 (W := 0) (argsL := [(.long (mixF ix))]) (rest := []) (wd 10 rfl) (wd 11 rfl) (wd 12 rfl) (wd 13 rfl) (by decide) (con_unmix l Z a0 hw n0 h107 X107.size (mixF ix)) (by decide) (by decide) rfl (lenOf pd_2 rfl) (Nat.le_of_ble_eq_true rfl) rfl at_66 (by decide) (by decide) (fun T111 h111 v111 X111 hQ111 => ?_)
      obtain ⟨rfl, hh111⟩ := hQ111
      rw [hh111] at X111
      rw [un_mix ix]
      show Go p e below s n0 _ _ _ (T111.setTop (mkF m 69 #[.val (.int nn), .val (.int pk), .val (.int el), .val (.ref b107), .val (.int ((ius el (6 : Int32)) + (0 : Int32))), .val (.int ix), .val (.int lx)] [(.long ix.toInt64)]))
      refine Go.st (fun _ => XS.iload X111.here C.hx rfl (hb C.hby at_69) rfl) ?_
      show Go p e below s n0 _ _ _ (T111.setTop (mkF m 71 #[.val (.int nn), .val (.int pk), .val (.int el), .val (.ref b107), .val (.int ((ius el (6 : Int32)) + (0 : Int32))), .val (.int ix), .val (.int lx)] [(.int ix), (.long ix.toInt64)]))
      refine Go.st (fun _ => XS.i2l X111.here C.hx rfl (hb C.hby at_71) rfl) ?_
      show Go p e below s n0 _ _ _ (T111.setTop (mkF m 72 #[.val (.int nn), .val (.int pk), .val (.int el), .val (.ref b107), .val (.int ((ius el (6 : Int32)) + (0 : Int32))), .val (.int ix), .val (.int lx)] [(.long ix.toInt64), (.long ix.toInt64)]))
      refine Go.st (fun _ => XS.lcmp X111.here C.hx rfl (hb C.hby at_72) rfl) ?_
      show Go p e below s n0 _ _ _ (T111.setTop (mkF m 73 #[.val (.int nn), .val (.int pk), .val (.int el), .val (.ref b107), .val (.int ((ius el (6 : Int32)) + (0 : Int32))), .val (.int ix), .val (.int lx)] [(.int (lcmpW ix.toInt64 ix.toInt64))]))
      refine Go.lif_ne C X111 (pc' := 105) at_73 (by decide) (by decide) (fun hc => by first | exact absurd hc rfl | exact absurd rfl hc) (fun _ => ?_)
      show Go p e below s n0 _ _ _ (T111.setTop (mkF m 76 #[.val (.int nn), .val (.int pk), .val (.int el), .val (.ref b107), .val (.int ((ius el (6 : Int32)) + (0 : Int32))), .val (.int ix), .val (.int lx)] []))
      refine Go.st (fun _ => XS.aloadN X111.here C.hx rfl (hb C.hby at_76) rfl rfl) ?_
      show Go p e below s n0 _ _ _ (T111.setTop (mkF m 77 #[.val (.int nn), .val (.int pk), .val (.int el), .val (.ref b107), .val (.int ((ius el (6 : Int32)) + (0 : Int32))), .val (.int ix), .val (.int lx)] [(.ref b107)]))
      refine Go.st (fun _ => XS.iconst X111.here C.hx rfl (hb C.hby at_77)) ?_
      show Go p e below s n0 _ _ _ (T111.setTop (mkF m 78 #[.val (.int nn), .val (.int pk), .val (.int el), .val (.ref b107), .val (.int ((ius el (6 : Int32)) + (0 : Int32))), .val (.int ix), .val (.int lx)] [(.int (0 : Int32)), (.ref b107)]))
      refine Go.laload C X111 A107 (by decide) (arr_get hN4 ⟨by decide, zlt hN4 hne⟩) at_78 ?_
      show Go p e below s n0 _ _ _ (T111.setTop (mkF m 79 #[.val (.int nn), .val (.int pk), .val (.int el), .val (.ref b107), .val (.int ((ius el (6 : Int32)) + (0 : Int32))), .val (.int ix), .val (.int lx)] [(.long (mixF (0 : Int32)))]))
      refine Go.callS C X111 (W := 0) (argsL := [(.long (mixF (0 : Int32)))]) (rest := []) (wd 10 rfl) (wd 11 rfl) (wd 12 rfl) (wd 13 rfl) (by decide) (con_unmix l Z a0 hw n0 h107 X111.size (mixF (0 : Int32))) (by decide) (by decide) rfl (lenOf pd_2 rfl) (Nat.le_of_ble_eq_true rfl) rfl at_79 (by decide) (by decide) (fun T113 h113 v113 X113 hQ113 => ?_)
      obtain ⟨rfl, hh113⟩ := hQ113
      rw [hh113] at X113
      rw [un_mix (0 : Int32)]
      show Go p e below s n0 _ _ _ (T113.setTop (mkF m 82 #[.val (.int nn), .val (.int pk), .val (.int el), .val (.ref b107), .val (.int ((ius el (6 : Int32)) + (0 : Int32))), .val (.int ix), .val (.int lx)] [(.long (0 : Int32).toInt64)]))
      refine Go.st (fun _ => XS.lconst X113.here C.hx rfl (hb C.hby at_82)) ?_
      show Go p e below s n0 _ _ _ (T113.setTop (mkF m 83 #[.val (.int nn), .val (.int pk), .val (.int el), .val (.ref b107), .val (.int ((ius el (6 : Int32)) + (0 : Int32))), .val (.int ix), .val (.int lx)] [(.long (0 : Int64)), (.long (0 : Int32).toInt64)]))
      refine Go.st (fun _ => XS.lcmp X113.here C.hx rfl (hb C.hby at_83) rfl) ?_
      show Go p e below s n0 _ _ _ (T113.setTop (mkF m 84 #[.val (.int nn), .val (.int pk), .val (.int el), .val (.ref b107), .val (.int ((ius el (6 : Int32)) + (0 : Int32))), .val (.int ix), .val (.int lx)] [(.int (lcmpW (0 : Int32).toInt64 (0 : Int64)))]))
      refine Go.lif_ne C X113 (pc' := 105) at_84 (by decide) (by decide) (fun hc => by first | exact absurd hc (show (0 : Int32).toInt64 = (0 : Int64) from rfl) | exact absurd (show (0 : Int32).toInt64 = (0 : Int64) from rfl) hc) (fun _ => ?_)
      show Go p e below s n0 _ _ _ (T113.setTop (mkF m 87 #[.val (.int nn), .val (.int pk), .val (.int el), .val (.ref b107), .val (.int ((ius el (6 : Int32)) + (0 : Int32))), .val (.int ix), .val (.int lx)] []))
      refine Go.st (fun _ => XS.aloadN X113.here C.hx rfl (hb C.hby at_87) rfl rfl) ?_
      show Go p e below s n0 _ _ _ (T113.setTop (mkF m 88 #[.val (.int nn), .val (.int pk), .val (.int el), .val (.ref b107), .val (.int ((ius el (6 : Int32)) + (0 : Int32))), .val (.int ix), .val (.int lx)] [(.ref b107)]))
      refine Go.st (fun _ => XS.iload X113.here C.hx rfl (hb C.hby at_88) rfl) ?_
      show Go p e below s n0 _ _ _ (T113.setTop (mkF m 90 #[.val (.int nn), .val (.int pk), .val (.int el), .val (.ref b107), .val (.int ((ius el (6 : Int32)) + (0 : Int32))), .val (.int ix), .val (.int lx)] [(.int lx), (.ref b107)]))
      refine Go.laload C X113 A107 (lxok hN4 hne hg_lx).1 (arr_get hN4 (lxok hN4 hne hg_lx)) at_90 ?_
      show Go p e below s n0 _ _ _ (T113.setTop (mkF m 91 #[.val (.int nn), .val (.int pk), .val (.int el), .val (.ref b107), .val (.int ((ius el (6 : Int32)) + (0 : Int32))), .val (.int ix), .val (.int lx)] [(.long (mixF lx))]))
      refine Go.callS C X113 (W := 0) (argsL := [(.long (mixF lx))]) (rest := []) (wd 10 rfl) (wd 11 rfl) (wd 12 rfl) (wd 13 rfl) (by decide) (con_unmix l Z a0 hw n0 h107 X113.size (mixF lx)) (by decide) (by decide) rfl (lenOf pd_2 rfl) (Nat.le_of_ble_eq_true rfl) rfl at_91 (by decide) (by decide) (fun T115 h115 v115 X115 hQ115 => ?_)
      obtain ⟨rfl, hh115⟩ := hQ115
      rw [hh115] at X115
      rw [un_mix lx]
      show Go p e below s n0 _ _ _ (T115.setTop (mkF m 94 #[.val (.int nn), .val (.int pk), .val (.int el), .val (.ref b107), .val (.int ((ius el (6 : Int32)) + (0 : Int32))), .val (.int ix), .val (.int lx)] [(.long lx.toInt64)]))
      refine Go.st (fun _ => XS.iload X115.here C.hx rfl (hb C.hby at_94) rfl) ?_
      show Go p e below s n0 _ _ _ (T115.setTop (mkF m 96 #[.val (.int nn), .val (.int pk), .val (.int el), .val (.ref b107), .val (.int ((ius el (6 : Int32)) + (0 : Int32))), .val (.int ix), .val (.int lx)] [(.int lx), (.long lx.toInt64)]))
      refine Go.st (fun _ => XS.i2l X115.here C.hx rfl (hb C.hby at_96) rfl) ?_
      show Go p e below s n0 _ _ _ (T115.setTop (mkF m 97 #[.val (.int nn), .val (.int pk), .val (.int el), .val (.ref b107), .val (.int ((ius el (6 : Int32)) + (0 : Int32))), .val (.int ix), .val (.int lx)] [(.long lx.toInt64), (.long lx.toInt64)]))
      refine Go.st (fun _ => XS.lcmp X115.here C.hx rfl (hb C.hby at_97) rfl) ?_
      show Go p e below s n0 _ _ _ (T115.setTop (mkF m 98 #[.val (.int nn), .val (.int pk), .val (.int el), .val (.ref b107), .val (.int ((ius el (6 : Int32)) + (0 : Int32))), .val (.int ix), .val (.int lx)] [(.int (lcmpW lx.toInt64 lx.toInt64))]))
      refine Go.lif_ne C X115 (pc' := 105) at_98 (by decide) (by decide) (fun hc => by first | exact absurd hc rfl | exact absurd rfl hc) (fun _ => ?_)
      show Go p e below s n0 _ _ _ (T115.setTop (mkF m 101 #[.val (.int nn), .val (.int pk), .val (.int el), .val (.ref b107), .val (.int ((ius el (6 : Int32)) + (0 : Int32))), .val (.int ix), .val (.int lx)] []))
      refine Go.st (fun _ => XS.iconst X115.here C.hx rfl (hb C.hby at_101)) ?_
      show Go p e below s n0 _ _ _ (T115.setTop (mkF m 102 #[.val (.int nn), .val (.int pk), .val (.int el), .val (.ref b107), .val (.int ((ius el (6 : Int32)) + (0 : Int32))), .val (.int ix), .val (.int lx)] [(.int (1 : Int32))]))
      refine Go.st (fun _ => XS.goto X115.here C.hx rfl (pc0 := 102) (pc' := 106) rfl (hb C.hby at_102) (by decide) (by decide)) ?_
      show Go p e below s n0 _ _ _ (T115.setTop (mkF m 106 #[.val (.int nn), .val (.int pk), .val (.int el), .val (.ref b107), .val (.int ((ius el (6 : Int32)) + (0 : Int32))), .val (.int ix), .val (.int lx)] [(.int (1 : Int32))]))
      exact Go.retZ C X115 (by decide) at_106 rfl (by decide) (by decide)
    · show Go p e below s n0 _ _ _ (T107.setTop (mkF m 45 #[.val (.int nn), .val (.int pk), .val (.int el), .val (.ref b107), .val (.int ((ius el (6 : Int32)) + (0 : Int32))), .unset, .unset] []))
      refine Go.st (fun _ => XS.iconst X107.here C.hx rfl (hb C.hby at_45)) ?_
      show Go p e below s n0 _ _ _ (T107.setTop (mkF m 46 #[.val (.int nn), .val (.int pk), .val (.int el), .val (.ref b107), .val (.int ((ius el (6 : Int32)) + (0 : Int32))), .unset, .unset] [(.int (1 : Int32))]))
      exact Go.retZ C X107 (by decide) at_46 rfl (by decide) (by decide)
  · show Go p e below s n0 _ _ _ (T107.setTop (mkF m 21 #[.val (.int nn), .val (.int pk), .val (.int el), .val (.ref b107), .unset, .unset, .unset] [(.int (ius el (6 : Int32)))]))
    refine Go.st (fun _ => XS.iconst X107.here C.hx rfl (hb C.hby at_21)) ?_
    show Go p e below s n0 _ _ _ (T107.setTop (mkF m 22 #[.val (.int nn), .val (.int pk), .val (.int el), .val (.ref b107), .unset, .unset, .unset] [(.int (1 : Int32)), (.int (ius el (6 : Int32)))]))
    refine Go.st (fun _ => XS.goto X107.here C.hx rfl (pc0 := 22) (pc' := 26) rfl (hb C.hby at_22) (by decide) (by decide)) ?_
    show Go p e below s n0 _ _ _ (T107.setTop (mkF m 26 #[.val (.int nn), .val (.int pk), .val (.int el), .val (.ref b107), .unset, .unset, .unset] [(.int (1 : Int32)), (.int (ius el (6 : Int32)))]))
    refine Go.st (fun _ => XS.iadd X107.here C.hx rfl (hb C.hby at_26) rfl) ?_
    show Go p e below s n0 _ _ _ (T107.setTop (mkF m 27 #[.val (.int nn), .val (.int pk), .val (.int el), .val (.ref b107), .unset, .unset, .unset] [(.int ((ius el (6 : Int32)) + (1 : Int32)))]))
    refine Go.st (fun _ => XS.istore X107.here C.hx rfl (hb C.hby at_27) rfl (l' := #[.val (.int nn), .val (.int pk), .val (.int el), .val (.ref b107), .val (.int ((ius el (6 : Int32)) + (1 : Int32))), .unset, .unset]) rfl) ?_
    show Go p e below s n0 _ _ _ (T107.setTop (mkF m 29 #[.val (.int nn), .val (.int pk), .val (.int el), .val (.ref b107), .val (.int ((ius el (6 : Int32)) + (1 : Int32))), .unset, .unset] []))
    refine Go.st (fun _ => XS.aloadN X107.here C.hx rfl (hb C.hby at_29) rfl rfl) ?_
    show Go p e below s n0 _ _ _ (T107.setTop (mkF m 30 #[.val (.int nn), .val (.int pk), .val (.int el), .val (.ref b107), .val (.int ((ius el (6 : Int32)) + (1 : Int32))), .unset, .unset] [(.ref b107)]))
    refine Go.alen C X107 A107 (z := N.toInt32) (by rw [arr_len]) at_30 ?_
    show Go p e below s n0 _ _ _ (T107.setTop (mkF m 31 #[.val (.int nn), .val (.int pk), .val (.int el), .val (.ref b107), .val (.int ((ius el (6 : Int32)) + (1 : Int32))), .unset, .unset] [(.int N.toInt32)]))
    refine Go.st (fun _ => XS.iconst X107.here C.hx rfl (hb C.hby at_31)) ?_
    show Go p e below s n0 _ _ _ (T107.setTop (mkF m 32 #[.val (.int nn), .val (.int pk), .val (.int el), .val (.ref b107), .val (.int ((ius el (6 : Int32)) + (1 : Int32))), .unset, .unset] [(.int (4 : Int32)), (.int N.toInt32)]))
    refine Go.st (fun _ => XS.iload X107.here C.hx rfl (hb C.hby at_32) rfl) ?_
    show Go p e below s n0 _ _ _ (T107.setTop (mkF m 34 #[.val (.int nn), .val (.int pk), .val (.int el), .val (.ref b107), .val (.int ((ius el (6 : Int32)) + (1 : Int32))), .unset, .unset] [(.int ((ius el (6 : Int32)) + (1 : Int32))), (.int (4 : Int32)), (.int N.toInt32)]))
    refine Go.st (fun _ => XS.imul X107.here C.hx rfl (hb C.hby at_34) rfl) ?_
    show Go p e below s n0 _ _ _ (T107.setTop (mkF m 35 #[.val (.int nn), .val (.int pk), .val (.int el), .val (.ref b107), .val (.int ((ius el (6 : Int32)) + (1 : Int32))), .unset, .unset] [(.int ((4 : Int32) * ((ius el (6 : Int32)) + (1 : Int32)))), (.int N.toInt32)]))
    refine Go.icmp_eq C X107 (pc' := 40) at_35 (by decide) (by decide) (fun _ => ?_) (fun hc => by first | exact absurd hc (show N.toInt32 = ((4 : Int32) * ((ius el (6 : Int32)) + (1 : Int32))) from by rw [hNz]; exact hk3.trans (by simp [hc18_108])) | exact absurd (show N.toInt32 = ((4 : Int32) * ((ius el (6 : Int32)) + (1 : Int32))) from by rw [hNz]; exact hk3.trans (by simp [hc18_108])) hc)
    show Go p e below s n0 _ _ _ (T107.setTop (mkF m 40 #[.val (.int nn), .val (.int pk), .val (.int el), .val (.ref b107), .val (.int ((ius el (6 : Int32)) + (1 : Int32))), .unset, .unset] []))
    refine Go.st (fun _ => XS.aloadN X107.here C.hx rfl (hb C.hby at_40) rfl rfl) ?_
    show Go p e below s n0 _ _ _ (T107.setTop (mkF m 41 #[.val (.int nn), .val (.int pk), .val (.int el), .val (.ref b107), .val (.int ((ius el (6 : Int32)) + (1 : Int32))), .unset, .unset] [(.ref b107)]))
    refine Go.alen C X107 A107 (z := N.toInt32) (by rw [arr_len]) at_41 ?_
    show Go p e below s n0 _ _ _ (T107.setTop (mkF m 42 #[.val (.int nn), .val (.int pk), .val (.int el), .val (.ref b107), .val (.int ((ius el (6 : Int32)) + (1 : Int32))), .unset, .unset] [(.int N.toInt32)]))
    refine Go.if_ne C X107 (pc' := 47) at_42 (by decide) (by decide) (fun hc42_118 => ?_) (fun hc42_118 => ?_)
    · have hne : ¬ N.toInt32 = 0 := hc42_118
      show Go p e below s n0 _ _ _ (T107.setTop (mkF m 47 #[.val (.int nn), .val (.int pk), .val (.int el), .val (.ref b107), .val (.int ((ius el (6 : Int32)) + (1 : Int32))), .unset, .unset] []))
      refine Go.st (fun _ => XS.iloadN X107.here C.hx rfl (hb C.hby at_47) rfl) ?_
      show Go p e below s n0 _ _ _ (T107.setTop (mkF m 48 #[.val (.int nn), .val (.int pk), .val (.int el), .val (.ref b107), .val (.int ((ius el (6 : Int32)) + (1 : Int32))), .unset, .unset] [(.int pk)]))
      refine Go.ldcI C X107 (wd 9 rfl) at_48 ?_
      show Go p e below s n0 _ _ _ (T107.setTop (mkF m 50 #[.val (.int nn), .val (.int pk), .val (.int el), .val (.ref b107), .val (.int ((ius el (6 : Int32)) + (1 : Int32))), .unset, .unset] [(.int (2147483647 : Int32)), (.int pk)]))
      refine Go.st (fun _ => XS.iand X107.here C.hx rfl (hb C.hby at_50) rfl) ?_
      show Go p e below s n0 _ _ _ (T107.setTop (mkF m 51 #[.val (.int nn), .val (.int pk), .val (.int el), .val (.ref b107), .val (.int ((ius el (6 : Int32)) + (1 : Int32))), .unset, .unset] [(.int (pk &&& (2147483647 : Int32)))]))
      refine Go.st (fun _ => XS.aloadN X107.here C.hx rfl (hb C.hby at_51) rfl rfl) ?_
      show Go p e below s n0 _ _ _ (T107.setTop (mkF m 52 #[.val (.int nn), .val (.int pk), .val (.int el), .val (.ref b107), .val (.int ((ius el (6 : Int32)) + (1 : Int32))), .unset, .unset] [(.ref b107), (.int (pk &&& (2147483647 : Int32)))]))
      refine Go.alen C X107 A107 (z := N.toInt32) (by rw [arr_len]) at_52 ?_
      show Go p e below s n0 _ _ _ (T107.setTop (mkF m 53 #[.val (.int nn), .val (.int pk), .val (.int el), .val (.ref b107), .val (.int ((ius el (6 : Int32)) + (1 : Int32))), .unset, .unset] [(.int N.toInt32), (.int (pk &&& (2147483647 : Int32)))]))
      refine Go.irem C X107 hne at_53 ?_
      show Go p e below s n0 _ _ _ (T107.setTop (mkF m 54 #[.val (.int nn), .val (.int pk), .val (.int el), .val (.ref b107), .val (.int ((ius el (6 : Int32)) + (1 : Int32))), .unset, .unset] [(.int ((pk &&& (2147483647 : Int32)) % N.toInt32))]))
      generalize hg_ix : ((pk &&& (2147483647 : Int32)) % N.toInt32) = ix
      refine Go.st (fun _ => XS.istore X107.here C.hx rfl (hb C.hby at_54) rfl (l' := #[.val (.int nn), .val (.int pk), .val (.int el), .val (.ref b107), .val (.int ((ius el (6 : Int32)) + (1 : Int32))), .val (.int ix), .unset]) rfl) ?_
      show Go p e below s n0 _ _ _ (T107.setTop (mkF m 56 #[.val (.int nn), .val (.int pk), .val (.int el), .val (.ref b107), .val (.int ((ius el (6 : Int32)) + (1 : Int32))), .val (.int ix), .unset] []))
      refine Go.st (fun _ => XS.aloadN X107.here C.hx rfl (hb C.hby at_56) rfl rfl) ?_
      show Go p e below s n0 _ _ _ (T107.setTop (mkF m 57 #[.val (.int nn), .val (.int pk), .val (.int el), .val (.ref b107), .val (.int ((ius el (6 : Int32)) + (1 : Int32))), .val (.int ix), .unset] [(.ref b107)]))
      refine Go.alen C X107 A107 (z := N.toInt32) (by rw [arr_len]) at_57 ?_
      show Go p e below s n0 _ _ _ (T107.setTop (mkF m 58 #[.val (.int nn), .val (.int pk), .val (.int el), .val (.ref b107), .val (.int ((ius el (6 : Int32)) + (1 : Int32))), .val (.int ix), .unset] [(.int N.toInt32)]))
      refine Go.st (fun _ => XS.iconst X107.here C.hx rfl (hb C.hby at_58)) ?_
      show Go p e below s n0 _ _ _ (T107.setTop (mkF m 59 #[.val (.int nn), .val (.int pk), .val (.int el), .val (.ref b107), .val (.int ((ius el (6 : Int32)) + (1 : Int32))), .val (.int ix), .unset] [(.int (1 : Int32)), (.int N.toInt32)]))
      refine Go.st (fun _ => XS.isub X107.here C.hx rfl (hb C.hby at_59) rfl) ?_
      show Go p e below s n0 _ _ _ (T107.setTop (mkF m 60 #[.val (.int nn), .val (.int pk), .val (.int el), .val (.ref b107), .val (.int ((ius el (6 : Int32)) + (1 : Int32))), .val (.int ix), .unset] [(.int (N.toInt32 - (1 : Int32)))]))
      generalize hg_lx : (N.toInt32 - (1 : Int32)) = lx
      refine Go.st (fun _ => XS.istore X107.here C.hx rfl (hb C.hby at_60) rfl (l' := #[.val (.int nn), .val (.int pk), .val (.int el), .val (.ref b107), .val (.int ((ius el (6 : Int32)) + (1 : Int32))), .val (.int ix), .val (.int lx)]) rfl) ?_
      show Go p e below s n0 _ _ _ (T107.setTop (mkF m 62 #[.val (.int nn), .val (.int pk), .val (.int el), .val (.ref b107), .val (.int ((ius el (6 : Int32)) + (1 : Int32))), .val (.int ix), .val (.int lx)] []))
      refine Go.st (fun _ => XS.aloadN X107.here C.hx rfl (hb C.hby at_62) rfl rfl) ?_
      show Go p e below s n0 _ _ _ (T107.setTop (mkF m 63 #[.val (.int nn), .val (.int pk), .val (.int el), .val (.ref b107), .val (.int ((ius el (6 : Int32)) + (1 : Int32))), .val (.int ix), .val (.int lx)] [(.ref b107)]))
      refine Go.st (fun _ => XS.iload X107.here C.hx rfl (hb C.hby at_63) rfl) ?_
      show Go p e below s n0 _ _ _ (T107.setTop (mkF m 65 #[.val (.int nn), .val (.int pk), .val (.int el), .val (.ref b107), .val (.int ((ius el (6 : Int32)) + (1 : Int32))), .val (.int ix), .val (.int lx)] [(.int ix), (.ref b107)]))
      refine Go.laload C X107 A107 (ixok hN4 hne hg_ix).1 (arr_get hN4 (ixok hN4 hne hg_ix)) at_65 ?_
      show Go p e below s n0 _ _ _ (T107.setTop (mkF m 66 #[.val (.int nn), .val (.int pk), .val (.int el), .val (.ref b107), .val (.int ((ius el (6 : Int32)) + (1 : Int32))), .val (.int ix), .val (.int lx)] [(.long (mixF ix))]))
      refine Go.callS C X107 (W := 0) (argsL := [(.long (mixF ix))]) (rest := []) (wd 10 rfl) (wd 11 rfl) (wd 12 rfl) (wd 13 rfl) (by decide) (con_unmix l Z a0 hw n0 h107 X107.size (mixF ix)) (by decide) (by decide) rfl (lenOf pd_2 rfl) (Nat.le_of_ble_eq_true rfl) rfl at_66 (by decide) (by decide) (fun T119 h119 v119 X119 hQ119 => ?_)
      obtain ⟨rfl, hh119⟩ := hQ119
      rw [hh119] at X119
      rw [un_mix ix]
      show Go p e below s n0 _ _ _ (T119.setTop (mkF m 69 #[.val (.int nn), .val (.int pk), .val (.int el), .val (.ref b107), .val (.int ((ius el (6 : Int32)) + (1 : Int32))), .val (.int ix), .val (.int lx)] [(.long ix.toInt64)]))
      refine Go.st (fun _ => XS.iload X119.here C.hx rfl (hb C.hby at_69) rfl) ?_
      show Go p e below s n0 _ _ _ (T119.setTop (mkF m 71 #[.val (.int nn), .val (.int pk), .val (.int el), .val (.ref b107), .val (.int ((ius el (6 : Int32)) + (1 : Int32))), .val (.int ix), .val (.int lx)] [(.int ix), (.long ix.toInt64)]))
      refine Go.st (fun _ => XS.i2l X119.here C.hx rfl (hb C.hby at_71) rfl) ?_
      show Go p e below s n0 _ _ _ (T119.setTop (mkF m 72 #[.val (.int nn), .val (.int pk), .val (.int el), .val (.ref b107), .val (.int ((ius el (6 : Int32)) + (1 : Int32))), .val (.int ix), .val (.int lx)] [(.long ix.toInt64), (.long ix.toInt64)]))
      refine Go.st (fun _ => XS.lcmp X119.here C.hx rfl (hb C.hby at_72) rfl) ?_
      show Go p e below s n0 _ _ _ (T119.setTop (mkF m 73 #[.val (.int nn), .val (.int pk), .val (.int el), .val (.ref b107), .val (.int ((ius el (6 : Int32)) + (1 : Int32))), .val (.int ix), .val (.int lx)] [(.int (lcmpW ix.toInt64 ix.toInt64))]))
      refine Go.lif_ne C X119 (pc' := 105) at_73 (by decide) (by decide) (fun hc => by first | exact absurd hc rfl | exact absurd rfl hc) (fun _ => ?_)
      show Go p e below s n0 _ _ _ (T119.setTop (mkF m 76 #[.val (.int nn), .val (.int pk), .val (.int el), .val (.ref b107), .val (.int ((ius el (6 : Int32)) + (1 : Int32))), .val (.int ix), .val (.int lx)] []))
      refine Go.st (fun _ => XS.aloadN X119.here C.hx rfl (hb C.hby at_76) rfl rfl) ?_
      show Go p e below s n0 _ _ _ (T119.setTop (mkF m 77 #[.val (.int nn), .val (.int pk), .val (.int el), .val (.ref b107), .val (.int ((ius el (6 : Int32)) + (1 : Int32))), .val (.int ix), .val (.int lx)] [(.ref b107)]))
      refine Go.st (fun _ => XS.iconst X119.here C.hx rfl (hb C.hby at_77)) ?_
      show Go p e below s n0 _ _ _ (T119.setTop (mkF m 78 #[.val (.int nn), .val (.int pk), .val (.int el), .val (.ref b107), .val (.int ((ius el (6 : Int32)) + (1 : Int32))), .val (.int ix), .val (.int lx)] [(.int (0 : Int32)), (.ref b107)]))
      refine Go.laload C X119 A107 (by decide) (arr_get hN4 ⟨by decide, zlt hN4 hne⟩) at_78 ?_
      show Go p e below s n0 _ _ _ (T119.setTop (mkF m 79 #[.val (.int nn), .val (.int pk), .val (.int el), .val (.ref b107), .val (.int ((ius el (6 : Int32)) + (1 : Int32))), .val (.int ix), .val (.int lx)] [(.long (mixF (0 : Int32)))]))
      refine Go.callS C X119 (W := 0) (argsL := [(.long (mixF (0 : Int32)))]) (rest := []) (wd 10 rfl) (wd 11 rfl) (wd 12 rfl) (wd 13 rfl) (by decide) (con_unmix l Z a0 hw n0 h107 X119.size (mixF (0 : Int32))) (by decide) (by decide) rfl (lenOf pd_2 rfl) (Nat.le_of_ble_eq_true rfl) rfl at_79 (by decide) (by decide) (fun T121 h121 v121 X121 hQ121 => ?_)
      obtain ⟨rfl, hh121⟩ := hQ121
      rw [hh121] at X121
      rw [un_mix (0 : Int32)]
      show Go p e below s n0 _ _ _ (T121.setTop (mkF m 82 #[.val (.int nn), .val (.int pk), .val (.int el), .val (.ref b107), .val (.int ((ius el (6 : Int32)) + (1 : Int32))), .val (.int ix), .val (.int lx)] [(.long (0 : Int32).toInt64)]))
      refine Go.st (fun _ => XS.lconst X121.here C.hx rfl (hb C.hby at_82)) ?_
      show Go p e below s n0 _ _ _ (T121.setTop (mkF m 83 #[.val (.int nn), .val (.int pk), .val (.int el), .val (.ref b107), .val (.int ((ius el (6 : Int32)) + (1 : Int32))), .val (.int ix), .val (.int lx)] [(.long (0 : Int64)), (.long (0 : Int32).toInt64)]))
      refine Go.st (fun _ => XS.lcmp X121.here C.hx rfl (hb C.hby at_83) rfl) ?_
      show Go p e below s n0 _ _ _ (T121.setTop (mkF m 84 #[.val (.int nn), .val (.int pk), .val (.int el), .val (.ref b107), .val (.int ((ius el (6 : Int32)) + (1 : Int32))), .val (.int ix), .val (.int lx)] [(.int (lcmpW (0 : Int32).toInt64 (0 : Int64)))]))
      refine Go.lif_ne C X121 (pc' := 105) at_84 (by decide) (by decide) (fun hc => by first | exact absurd hc (show (0 : Int32).toInt64 = (0 : Int64) from rfl) | exact absurd (show (0 : Int32).toInt64 = (0 : Int64) from rfl) hc) (fun _ => ?_)
      show Go p e below s n0 _ _ _ (T121.setTop (mkF m 87 #[.val (.int nn), .val (.int pk), .val (.int el), .val (.ref b107), .val (.int ((ius el (6 : Int32)) + (1 : Int32))), .val (.int ix), .val (.int lx)] []))
      refine Go.st (fun _ => XS.aloadN X121.here C.hx rfl (hb C.hby at_87) rfl rfl) ?_
      show Go p e below s n0 _ _ _ (T121.setTop (mkF m 88 #[.val (.int nn), .val (.int pk), .val (.int el), .val (.ref b107), .val (.int ((ius el (6 : Int32)) + (1 : Int32))), .val (.int ix), .val (.int lx)] [(.ref b107)]))
      refine Go.st (fun _ => XS.iload X121.here C.hx rfl (hb C.hby at_88) rfl) ?_
      show Go p e below s n0 _ _ _ (T121.setTop (mkF m 90 #[.val (.int nn), .val (.int pk), .val (.int el), .val (.ref b107), .val (.int ((ius el (6 : Int32)) + (1 : Int32))), .val (.int ix), .val (.int lx)] [(.int lx), (.ref b107)]))
      refine Go.laload C X121 A107 (lxok hN4 hne hg_lx).1 (arr_get hN4 (lxok hN4 hne hg_lx)) at_90 ?_
      show Go p e below s n0 _ _ _ (T121.setTop (mkF m 91 #[.val (.int nn), .val (.int pk), .val (.int el), .val (.ref b107), .val (.int ((ius el (6 : Int32)) + (1 : Int32))), .val (.int ix), .val (.int lx)] [(.long (mixF lx))]))
      refine Go.callS C X121 (W := 0) (argsL := [(.long (mixF lx))]) (rest := []) (wd 10 rfl) (wd 11 rfl) (wd 12 rfl) (wd 13 rfl) (by decide) (con_unmix l Z a0 hw n0 h107 X121.size (mixF lx)) (by decide) (by decide) rfl (lenOf pd_2 rfl) (Nat.le_of_ble_eq_true rfl) rfl at_91 (by decide) (by decide) (fun T123 h123 v123 X123 hQ123 => ?_)
      obtain ⟨rfl, hh123⟩ := hQ123
      rw [hh123] at X123
      rw [un_mix lx]
      show Go p e below s n0 _ _ _ (T123.setTop (mkF m 94 #[.val (.int nn), .val (.int pk), .val (.int el), .val (.ref b107), .val (.int ((ius el (6 : Int32)) + (1 : Int32))), .val (.int ix), .val (.int lx)] [(.long lx.toInt64)]))
      refine Go.st (fun _ => XS.iload X123.here C.hx rfl (hb C.hby at_94) rfl) ?_
      show Go p e below s n0 _ _ _ (T123.setTop (mkF m 96 #[.val (.int nn), .val (.int pk), .val (.int el), .val (.ref b107), .val (.int ((ius el (6 : Int32)) + (1 : Int32))), .val (.int ix), .val (.int lx)] [(.int lx), (.long lx.toInt64)]))
      refine Go.st (fun _ => XS.i2l X123.here C.hx rfl (hb C.hby at_96) rfl) ?_
      show Go p e below s n0 _ _ _ (T123.setTop (mkF m 97 #[.val (.int nn), .val (.int pk), .val (.int el), .val (.ref b107), .val (.int ((ius el (6 : Int32)) + (1 : Int32))), .val (.int ix), .val (.int lx)] [(.long lx.toInt64), (.long lx.toInt64)]))
      refine Go.st (fun _ => XS.lcmp X123.here C.hx rfl (hb C.hby at_97) rfl) ?_
      show Go p e below s n0 _ _ _ (T123.setTop (mkF m 98 #[.val (.int nn), .val (.int pk), .val (.int el), .val (.ref b107), .val (.int ((ius el (6 : Int32)) + (1 : Int32))), .val (.int ix), .val (.int lx)] [(.int (lcmpW lx.toInt64 lx.toInt64))]))
      refine Go.lif_ne C X123 (pc' := 105) at_98 (by decide) (by decide) (fun hc => by first | exact absurd hc rfl | exact absurd rfl hc) (fun _ => ?_)
      show Go p e below s n0 _ _ _ (T123.setTop (mkF m 101 #[.val (.int nn), .val (.int pk), .val (.int el), .val (.ref b107), .val (.int ((ius el (6 : Int32)) + (1 : Int32))), .val (.int ix), .val (.int lx)] []))
      refine Go.st (fun _ => XS.iconst X123.here C.hx rfl (hb C.hby at_101)) ?_
      show Go p e below s n0 _ _ _ (T123.setTop (mkF m 102 #[.val (.int nn), .val (.int pk), .val (.int el), .val (.ref b107), .val (.int ((ius el (6 : Int32)) + (1 : Int32))), .val (.int ix), .val (.int lx)] [(.int (1 : Int32))]))
      refine Go.st (fun _ => XS.goto X123.here C.hx rfl (pc0 := 102) (pc' := 106) rfl (hb C.hby at_102) (by decide) (by decide)) ?_
      show Go p e below s n0 _ _ _ (T123.setTop (mkF m 106 #[.val (.int nn), .val (.int pk), .val (.int el), .val (.ref b107), .val (.int ((ius el (6 : Int32)) + (1 : Int32))), .val (.int ix), .val (.int lx)] [(.int (1 : Int32))]))
      exact Go.retZ C X123 (by decide) at_106 rfl (by decide) (by decide)
    · show Go p e below s n0 _ _ _ (T107.setTop (mkF m 45 #[.val (.int nn), .val (.int pk), .val (.int el), .val (.ref b107), .val (.int ((ius el (6 : Int32)) + (1 : Int32))), .unset, .unset] []))
      refine Go.st (fun _ => XS.iconst X107.here C.hx rfl (hb C.hby at_45)) ?_
      show Go p e below s n0 _ _ _ (T107.setTop (mkF m 46 #[.val (.int nn), .val (.int pk), .val (.int el), .val (.ref b107), .val (.int ((ius el (6 : Int32)) + (1 : Int32))), .unset, .unset] [(.int (1 : Int32))]))
      exact Go.retZ C X107 (by decide) at_46 rfl (by decide) (by decide)
set_option maxRecDepth 65536 in
set_option maxHeartbeats 40000000 in
theorem comes_1 {Post : Tables → Env → Array Value → State → Outcome → State → Prop} (hpost : ∀ tb e args s v u, (limb_1_1.after args s (.returned v) u = true ∧ limb_1_2.after args s (.returned v) u = true ∧ True) → FrameEnd s (.returned v) u (Jvm.fieldLocs frame_1_writes args s ++ Jvm.arrayLocs frame_1_arrays args s ++ Jvm.staticLocs frame_1_statics s) 16 8256 → Post tb e args s (.returned v) u) :
    ArmFor flags0 classFile x code maxLocals ret World_1 tables_1 room_1 Calls_1 rest_1 Pre_1 Post := by
  intro l hfl _ _ p e ha hc hk s m args below hf hA hF happ hP
  obtain ⟨hcalls, hrest, hpre⟩ := hP
  obtain ⟨-, -, -, hnamed, -, -, -, hat⟩ := (Spec.applies_iff hf).mp happ
  obtain ⟨hg, hn⟩ := and_e (Cond.before_iff.mp (show (Jvm.Cond.and given_1 narrow_1).before args s = true from hpre))
  obtain ⟨h1, hr0⟩ := and_e hg
  obtain ⟨ha0, hr1⟩ := and_e hr0
  have ha1 := hr1
  obtain ⟨w0, w1, rfl⟩ : ∃ w0 w1 : Value, args = #[w0, w1] := by
    have hs : args.size = 2 := by simpa [Cond.value, given_1] using h1
    obtain ⟨L⟩ := args
    match L, hs with
    | [w0, w1], _ => exact ⟨w0, w1, rfl⟩
  have hw := fun d (hd : d ∈ tables_1) => atoms_spec (ws := Jvm.Cond.code x code maxLocals ret :: tables_1) hat d (List.mem_cons_of_mem _ hd)
  obtain ⟨i0, e0⟩ := is_v ha0
  obtain rfl : w0 = (.int i0) := Option.some.inj e0
  obtain ⟨i1, e1⟩ := is_v ha1
  obtain rfl : w1 = (.int i1) := Option.some.inj e1
  obtain ⟨n, o, h1, h2, h3, _, L, rfl, ⟨rfl, N⟩, hq⟩ := con_law l s _ hw s.heap.size s.heap (Nat.le_refl _) i0 i1  p e ha hc hk s m _ below hf ((Spec.applies_iff_loose hf).mp happ).1 ⟨rfl, State.Warmed39.refl s, rfl⟩ trivial
  refine ⟨n, _, h1, h2, h3, hpost _ _ _ _ _ _ ⟨Cond.after_iff.mpr rfl, Cond.after_iff.mpr (eq_i res_at (Term.int_eval (1)) rfl), trivial⟩ ⟨hq.1, hq.2.1, (hq.2.2.sift fun y hy => Or.inr (N y hy)).mono (by decide) (by decide)⟩⟩
theorem main_1_1 : Claimed_1_1 := comes_1 fun _ _ _ _ _ _ h hF => ⟨h.1, hF⟩
theorem main_1_2 : Claimed_1_2 := comes_1 fun _ _ _ _ _ _ h hF => ⟨h.2.1, hF⟩
end Jvm.Pilot.@@N@@
namespace Jvm.Pilot.@@N@@
open Jvm Jvm.ClassFile Sem Op Lib Jvm.Free Jvm.Stand Jvm.Pilot.@@N@@.Jvm.D
/-! MADE BY PROGRAM (witnessworld.py) out of the Statement's table words and the real class files: 11 classes; the members and pool entries that the words name. The judged class is class 1, her method 1. -/
namespace start1
open Jvm.ClassFile
def u (s : String) : CpInfo := .utf8 (stringToUtf16 s)
/-- a pool by its gaps: so many unusable entries, then the entry; so many at the end -/
def gap : Nat → List CpInfo → List CpInfo
  | 0, r => r
  | n + 1, r => .unusable :: gap n r
def poolList (es : List (Nat × CpInfo)) (last : Nat) : List CpInfo := es.foldr (fun e r => gap e.1 (e.2 :: r)) (gap last [])
def pool (es : List (Nat × CpInfo)) (last : Nat) : Array CpInfo := ⟨poolList es last⟩
def fileOf (pool : Array CpInfo) (this : Nat) (attrs : Array Attribute := #[]) (ms : Array MethodInfo := #[]) (fl : Nat := 33) (sup : Nat := 0) (ifs : Array Nat := #[]) (fds : Array FieldInfo := #[]) : ClassFile where
  minorVersion := 0
  majorVersion := 65
  constantPool := pool
  accessFlags := fl
  thisClass := this
  superClass := sup
  interfaces := ifs
  fields := fds
  methods := ms
  attributes := attrs
def plain (name : String) (sup : Option ClassId) : Class where
  name := name
  kind := .ordinary
  loader := none
  accessFlags := 33
  super := sup
  interfaces := #[]
  cf := none
  fields := #[]
  methods := #[]
  instanceTypes := #[]
  staticTypes := #[]
  resolved := #[]
  callSites := []
  init := .initialized
  statics := none
  mirror := none

def pool0 : Array CpInfo := pool [(5, u "<init>"), (0, u "()V"), (1, .class_ 10), (1, u "java/lang/Object")] 113

def k0m0 : Method := { name := "<init>", desc := "()V", sig := { parameters := [], returnType := none }, accessFlags := 1, code := none }
/-- java/lang/Object -/
def k0 : Class := { plain "java/lang/Object" none with
  accessFlags := 33
  interfaces := #[]
  cf := some (fileOf pool0 8 #[] #[{ accessFlags := 1, nameIndex := 5, descriptorIndex := 6, attributes := #[] }] 33 0 #[] #[])
  fields := #[]
  methods := #[k0m0]
  instanceTypes := #[]
  staticTypes := #[]
  resolved := Array.replicate 124 none
  statics := none }

def pool1 : Array CpInfo := pool [(2, .class_ 4), (1, u "java/lang/Object"), (0, u "<init>"), (0, u "()V"), (0, .integer 65535), (0, .methodref 9 10), (0, .class_ 11), (0, .nameAndType 12 13), (0, u "com/example/lattis/lattis/explicit/Cuts"), (0, u "keys"), (0, u "(I)[J"), (0, .integer 2147483647), (0, .methodref 16 17), (0, .class_ 18), (0, .nameAndType 19 20), (0, u "com/example/lattis/lattis/explicit/CutsKeysPinLaw"), (0, u "unmix"), (0, u "(J)J"), (0, .long 3573116690164977347), (1, .long 10871156337175269513), (1, .long 11400714819323198485), (3, u "law"), (0, u "(II)Z")] 5

def k1m0 : Method := { name := "<init>", desc := "()V", sig := { parameters := [], returnType := none }, accessFlags := 1, code := none }
def k1c1 : Code := { maxStack := 4, maxLocals := 7, code := code, exceptionTable := #[], attributes := #[] }
def k1m1 : Method := { name := "law", desc := "(II)Z", sig := { parameters := [.int, .int], returnType := some .boolean }, accessFlags := 9, code := some k1c1 }
def k1c2 : Code := { maxStack := 5, maxLocals := 4, code := method_3_code, exceptionTable := #[], attributes := #[] }
def k1m2 : Method := { name := "unmix", desc := "(J)J", sig := { parameters := [.long], returnType := some .long }, accessFlags := 10, code := some k1c2 }
/-- com/example/lattis/lattis/explicit/CutsKeysPinLaw -/
def k1 : Class := { plain "com/example/lattis/lattis/explicit/CutsKeysPinLaw" (some 0) with
  accessFlags := 49
  interfaces := #[]
  cf := some (fileOf pool1 16 #[] #[{ accessFlags := 1, nameIndex := 5, descriptorIndex := 6, attributes := #[] }, { accessFlags := 9, nameIndex := 29, descriptorIndex := 30, attributes := #[] }, { accessFlags := 10, nameIndex := 19, descriptorIndex := 20, attributes := #[] }] 49 2 #[] #[])
  fields := #[]
  methods := #[k1m0, k1m1, k1m2]
  instanceTypes := #[]
  staticTypes := #[]
  resolved := Array.replicate 36 none
  statics := none }

def pool2 : Array CpInfo := pool [(2, .class_ 4), (1, u "com/example/lattis/lattis/explicit/Cuts"), (0, u "keys"), (0, u "(I)[J"), (5, .class_ 14), (1, u "java/lang/Object"), (6, u "made"), (0, u "Ljava/util/Map;"), (2, u "slotPrints"), (0, u "[J"), (2, u "slotNumbers"), (0, u "[I"), (4, u "elements"), (0, u "[Ljava/util/BitSet;"), (2, u "sizes"), (2, u "prints"), (3, u "maxima"), (0, u "[[I"), (2, u "limit"), (0, u "I"), (2, u "laterTwin"), (0, u "Ljava/util/BitSet;"), (4, u "count"), (20, .long 11400714819323198485), (1, .long 13787848793156543929), (1, .long 10723151780598845931), (118, u "FIRST_SLOTS")] 21

def k2c0 : Code := { maxStack := 7, maxLocals := 5, code := prog_35_method_3_code, exceptionTable := #[], attributes := #[] }
def k2m0 : Method := { name := "keys", desc := "(I)[J", sig := { parameters := [.int], returnType := some (.array .long) }, accessFlags := 8, code := some k2c0 }
/-- com/example/lattis/lattis/explicit/Cuts -/
def k2 : Class := { plain "com/example/lattis/lattis/explicit/Cuts" (some 0) with
  accessFlags := 48
  interfaces := #[]
  cf := some (fileOf pool2 2 #[] #[{ accessFlags := 8, nameIndex := 5, descriptorIndex := 6, attributes := #[] }] 48 12 #[] #[{ accessFlags := 18, nameIndex := 35, descriptorIndex := 36, attributes := #[] }, { accessFlags := 18, nameIndex := 39, descriptorIndex := 30, attributes := #[] }, { accessFlags := 18, nameIndex := 42, descriptorIndex := 26, attributes := #[] }, { accessFlags := 18, nameIndex := 46, descriptorIndex := 47, attributes := #[] }, { accessFlags := 2, nameIndex := 60, descriptorIndex := 51, attributes := #[] }, { accessFlags := 18, nameIndex := 50, descriptorIndex := 51, attributes := #[] }, { accessFlags := 18, nameIndex := 54, descriptorIndex := 55, attributes := #[] }, { accessFlags := 18, nameIndex := 5, descriptorIndex := 26, attributes := #[] }, { accessFlags := 18, nameIndex := 21, descriptorIndex := 22, attributes := #[] }, { accessFlags := 2, nameIndex := 25, descriptorIndex := 26, attributes := #[] }, { accessFlags := 2, nameIndex := 29, descriptorIndex := 30, attributes := #[] }, { accessFlags := 26, nameIndex := 204, descriptorIndex := 51, attributes := #[] }])
  fields := #[{ name := "elements", type := (.array (.object "java/util/BitSet")), accessFlags := 18, slot := 0, constantValue := 0 }, { name := "sizes", type := (.array .int), accessFlags := 18, slot := 1, constantValue := 0 }, { name := "prints", type := (.array .long), accessFlags := 18, slot := 2, constantValue := 0 }, { name := "maxima", type := (.array (.array .int)), accessFlags := 18, slot := 3, constantValue := 0 }, { name := "count", type := .int, accessFlags := 2, slot := 4, constantValue := 0 }, { name := "limit", type := .int, accessFlags := 18, slot := 5, constantValue := 0 }, { name := "laterTwin", type := (.object "java/util/BitSet"), accessFlags := 18, slot := 6, constantValue := 0 }, { name := "keys", type := (.array .long), accessFlags := 18, slot := 7, constantValue := 0 }, { name := "made", type := (.object "java/util/Map"), accessFlags := 18, slot := 8, constantValue := 0 }, { name := "slotPrints", type := (.array .long), accessFlags := 2, slot := 9, constantValue := 0 }, { name := "slotNumbers", type := (.array .int), accessFlags := 2, slot := 10, constantValue := 0 }, { name := "FIRST_SLOTS", type := .int, accessFlags := 26, slot := 0, constantValue := 0 }]
  methods := #[k2m0]
  instanceTypes := #[(.array (.object "java/util/BitSet")), (.array .int), (.array .long), (.array (.array .int)), .int, .int, (.object "java/util/BitSet"), (.array .long), (.object "java/util/Map"), (.array .long), (.array .int)]
  staticTypes := #[.int]
  resolved := Array.replicate 226 none
  statics := none }

def pool3 : Array CpInfo := pool [(1, u "java/lang/Cloneable"), (0, .class_ 1), (0, u "java/lang/Object"), (0, .class_ 3)] 3

/-- java/lang/Cloneable -/
def k3 : Class := { plain "java/lang/Cloneable" (some 0) with
  accessFlags := 1537
  interfaces := #[]
  cf := some (fileOf pool3 2 #[] #[] 1537 4 #[] #[])
  fields := #[]
  methods := #[]
  instanceTypes := #[]
  staticTypes := #[]
  resolved := Array.replicate 8 none
  statics := none }

def pool4 : Array CpInfo := pool [(1, u "java/io/Serializable"), (0, .class_ 1), (0, u "java/lang/Object"), (0, .class_ 3)] 3

/-- java/io/Serializable -/
def k4 : Class := { plain "java/io/Serializable" (some 0) with
  accessFlags := 1537
  interfaces := #[]
  cf := some (fileOf pool4 2 #[] #[] 1537 4 #[] #[])
  fields := #[]
  methods := #[]
  instanceTypes := #[]
  staticTypes := #[]
  resolved := Array.replicate 8 none
  statics := none }

/-- the primitive byte -/
def k5 : Class := { plain "byte" none with kind := .primitive 'B', accessFlags := 0x411 }
/-- [B -/
def k6 : Class := { plain "[B" (some 0) with kind := .array 5 .byte, interfaces := #[3, 4], accessFlags := 1041 }

/-- the primitive int -/
def k7 : Class := { plain "int" none with kind := .primitive 'I', accessFlags := 0x411 }
/-- [I -/
def k8 : Class := { plain "[I" (some 0) with kind := .array 7 .int, interfaces := #[3, 4], accessFlags := 1041 }

/-- the primitive long -/
def k9 : Class := { plain "long" none with kind := .primitive 'J', accessFlags := 0x411 }
/-- [J -/
def k10 : Class := { plain "[J" (some 0) with kind := .array 9 .long, interfaces := #[3, 4], accessFlags := 1041 }

def heap : Heap := #[]
def classes : Array Class := #[k0, k1, k2, k3, k4, k5, k6, k7, k8, k9, k10]
def interned : List (Array UInt16 × Addr) := []
def slotsUsed : Nat := 0
def theMethod : MethodId := ⟨1, 1⟩
def args0 : Array Value := #[.int 70, .int 2]
def aboutOver (below : List Frame) : State where
  vm := { classes := classes, interned := interned.toArray }
  heap := heap
  slotsUsed := slotsUsed
  threads := #[{ frames := .invoking theMethod args0 :: below }]
def below0 : List Frame := [.native { method := ⟨0, 0⟩, args := #[] }]
def about1 : State := aboutOver below0
def p0 : Program := .bare "" "" ""
def e0 : Env := launch0.env 0 0 0
theorem w_frames : about1.frames = Frame.invoking theMethod args0 :: below0 := rfl
set_option maxRecDepth 65536 in
theorem w_args : argsFit about1.vm theMethod args0 = true := by decide +kernel
set_option maxRecDepth 65536 in
theorem w_heap : heapFits about1 = true := by decide +kernel
set_option maxRecDepth 65536 in
theorem w_runnable : about1.curStatus? = some .runnable := by decide +kernel
set_option maxRecDepth 65536 in
theorem w_alone : about1.alone = true := by decide +kernel
set_option maxRecDepth 65536 in
theorem w_named : about1.methodNamed? x = some theMethod := by decide +kernel
set_option maxRecDepth 65536 in
theorem w_hears : about1.hears theMethod below0 = true := by decide +kernel
set_option maxRecDepth 65536 in
theorem w_ripe : about1.ripe theMethod args0 below0 = true := by decide +kernel
theorem w_running : about1.status = .running := rfl
set_option maxRecDepth 65536 in
theorem w_room : about1.hasRoom e0.platform room_1 = true :=
  launch0.hasRoom_least _ room_1 (by decide +kernel) (by decide +kernel) (by decide +kernel) (by decide +kernel) (by decide +kernel) (by decide +kernel)
theorem allAtoms_all (ts : List Jvm.Cond) (a : Array Jvm.Value) (st : Jvm.State) : (allAtoms ts).before a st = ts.all (fun c => c.before a st) := by
  induction ts with
  | nil => rfl
  | cons c t ih =>
    show (Jvm.Cond.and c (allAtoms t)).before a st = _
    rw [Jvm.Cond.before_and, ih, List.all_cons]
def words1 : List Jvm.Cond := Jvm.Cond.code x code maxLocals ret :: tables_1
/-- a 'code' word, met by the world's own term for the bytes: nothing is compared byte by byte -/
theorem code_word {y : MethodName} {bytes : ByteArray} {mx : Nat} {rt : Option FieldType} {a : Array Value} {s : State} {m : MethodId} {meth : Method} {c : Code} (h1 : s.methodNamed? y = some m) (h2 : s.vm.method? m = some meth) (h3 : meth.code = some c) (h4 : c.code = bytes)
    (h5 : (c.maxLocals == mx && c.exceptionTable.isEmpty && decide (c.maxStack ≤ mostOperands) && decide (meth.sig.returnType = rt) && !meth.locks && decide (parseMethodDescriptor y.desc = some meth.sig)) = true) : (Jvm.Cond.code y bytes mx rt).before a s = true := by
  simp only [Bool.and_eq_true, beq_iff_eq, Bool.not_eq_true', decide_eq_true_eq] at h5
  obtain ⟨⟨⟨⟨⟨g1, g2⟩, g3⟩, g4⟩, g5⟩, g6⟩ := h5
  simp [Cond.before, Cond.holds, Cond.value, h1, h2, h3, h4, g1, g2, g3, g4, g5, g6]
def isCode : Jvm.Cond → Bool
  | .code _ _ _ _ => true
  | _ => false
theorem all_split {L : List Jvm.Cond} {P : Jvm.Cond → Bool} (h1 : L.all (fun c => isCode c || P c) = true) (h2 : ∀ c ∈ L.filter isCode, P c = true) : L.all P = true := by
  refine List.all_eq_true.mpr fun c hc => ?_
  have h := List.all_eq_true.mp h1 c hc
  rcases Bool.eq_false_or_eq_true (isCode c) with hi | hi
  · exact h2 c (List.mem_filter.mpr ⟨hc, hi⟩)
  · simpa [hi] using h
set_option maxRecDepth 65536 in
theorem w_c0 : (Jvm.Cond.code x code maxLocals ret).before args0 about1 = true := code_word (m := ⟨1, 1⟩) (meth := k1m1) (c := k1c1) (by decide +kernel) rfl rfl rfl (by decide +kernel)
set_option maxRecDepth 65536 in
theorem w_c1 : (Jvm.Cond.code ({ cls := "com/example/lattis/lattis/explicit/Cuts", name := "keys", desc := "(I)[J" } : Jvm.MethodName) prog_35_method_3_code (5 : Nat) (Option.some (Jvm.ClassFile.FieldType.array Jvm.ClassFile.FieldType.long))).before args0 about1 = true := code_word (m := ⟨2, 0⟩) (meth := k2m0) (c := k2c0) (by decide +kernel) rfl rfl rfl (by decide +kernel)
set_option maxRecDepth 65536 in
theorem w_c2 : (Jvm.Cond.code ({ cls := "com/example/lattis/lattis/explicit/CutsKeysPinLaw", name := "unmix", desc := "(J)J" } : Jvm.MethodName) method_3_code (4 : Nat) (Option.some Jvm.ClassFile.FieldType.long)).before args0 about1 = true := code_word (m := ⟨1, 2⟩) (meth := k1m2) (c := k1c2) (by decide +kernel) rfl rfl rfl (by decide +kernel)
def codes1 : List Jvm.Cond := [Jvm.Cond.code x code maxLocals ret, Jvm.Cond.code ({ cls := "com/example/lattis/lattis/explicit/Cuts", name := "keys", desc := "(I)[J" } : Jvm.MethodName) prog_35_method_3_code (5 : Nat) (Option.some (Jvm.ClassFile.FieldType.array Jvm.ClassFile.FieldType.long)), Jvm.Cond.code ({ cls := "com/example/lattis/lattis/explicit/CutsKeysPinLaw", name := "unmix", desc := "(J)J" } : Jvm.MethodName) method_3_code (4 : Nat) (Option.some Jvm.ClassFile.FieldType.long)]
set_option maxRecDepth 65536 in
theorem codes_eq : words1.filter isCode = codes1 := rfl
theorem w_codes : ∀ c ∈ words1.filter isCode, c.before args0 about1 = true := by
  rw [codes_eq]
  intro c hc
  simp only [codes1, List.mem_cons, List.not_mem_nil, or_false] at hc
  rcases hc with rfl | rfl | rfl
  · exact w_c0
  · exact w_c1
  · exact w_c2
set_option maxRecDepth 65536 in
theorem w_t1 : words1.all (fun c => isCode c || c.before args0 about1) = true := by decide +kernel
theorem w_tables : (allAtoms (Jvm.Cond.code x code maxLocals ret :: tables_1)).before args0 about1 = true := by
  rw [allAtoms_all]
  show words1.all (fun c => c.before args0 about1) = true
  refine all_split ?_ w_codes
  rw [w_t1]
set_option maxRecDepth 65536 in
theorem w_case : (Jvm.Cond.and given_1 narrow_1).before args0 about1 = true := by decide +kernel
theorem w_applies : (headSpec (Jvm.Cond.code x code maxLocals ret :: tables_1) room_1).applies x e0.platform about1 = true :=
  (Spec.applies_iff w_frames).mpr ⟨w_running, w_runnable, w_alone, w_named, w_hears, w_ripe, w_room, w_tables⟩
theorem atStart : AtStart classFile x code maxLocals ret World_1 tables_1 room_1 Calls_1 rest_1 Pre_1 launch0 p0 e0 about1 theMethod args0 below0 :=
  ⟨lists_1, trivial, launch0.admits_env _ _ _, launch0.least_env, fairChoices_fair.cas, fairChoices_fair.clock, w_frames, w_args, w_heap, w_applies, trivial, trivial, w_case⟩
end start1
theorem witness_1 : WitnessClaimed_1 := ⟨start1.p0, start1.e0, start1.about1, start1.theMethod, start1.args0, start1.below0, start1.atStart⟩
end Jvm.Pilot.@@N@@
