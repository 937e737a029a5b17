import JvmDerived
import JvmDerived.Pilot.@@N@@Statement
import JvmDerived.Pilot.@@N@@Code
set_option linter.unusedVariables false
set_option linter.unusedSimpArgs false
namespace Jvm.Pilot.@@N@@
open Jvm Jvm.ClassFile Sem Op Lib Jvm.Free Jvm.Stand Jvm.LawKit Jvm.RoadKit Bundle Jvm.Pilot.@@N@@.Jvm.D
section OwnKit
variable {p : Program} {l : Launch} {e : Env} {R : Room} {s : State} {m : MethodId} {args : Array Value} {below : List Frame} {meth : Method} {c : Code} {T : State} {locs : List Loc} {cells slots : Nat}
variable {Q : Option Value → Heap → List Loc → Prop} {K N : Nat}
/-- from the state U the body comes to its end, and leaves what Q says -/
def own_G (p : Program) (e : Env) (below : List Frame) (s : State) (Q : Option Value → Heap → List Loc → Prop) (K N : Nat) (U : State) : Prop :=
  ∃ s₂ o, Steps p.tables e below U s₂ ∧ s₂.status = .running ∧ Ended s₂ below o ∧ ∃ v L, o = .returned v ∧ Q v s₂.heap L ∧ FrameEnd s o s₂ L K N
theorem own_go {U U' : State} (h : ∀ t, Steps p.tables e below U' t → Steps p.tables e below U t) (k : own_G p e below s Q K N U') : own_G p e below s Q K N U := by
  obtain ⟨s₂, o, h1, r⟩ := k
  exact ⟨s₂, o, h _ h1, r⟩
theorem own_end (X : Stand p l e R s m args below meth c T locs cells slots) {v : Option Value} (hv : meth.sig.returnType = none → v = none) (hlocks : meth.locks = false) {U : State}
    (st : ∀ fs, (∀ (f : JFrame) (acts : List Action), f.method = m → f.locked = none → f.entered = [] → (doReturn e (T.setTop f) acts v).1 = T.setFrames fs) → Steps p.tables e below U (T.setFrames fs))
    (hQ : Q v T.heap locs) (hK : cells ≤ K) (hN : slots ≤ N) : own_G p e below s Q K N U := by
  obtain ⟨fs, hr, hrun, hended, hW, hsame⟩ := X.leave hv hlocks
  exact ⟨_, _, st fs hr, hrun, hended, _, _, rfl, hQ, ⟨_, rfl⟩, hW, hsame.mono hK hN⟩
theorem own_retI (X : Stand p l e R s m args below meth c T locs cells slots) (hx : p.tables.exec = Jvm.exec) {pc : Nat} {Ls : Array Slot} {z : Int32} {rest : List Value} (hret : meth.sig.returnType = some .int) (hlocks : meth.locks = false) (hd : decode c.code pc = .ok (.ireturn, 1))
    {h : Heap} (eT : T.heap = h) (hQ : Q (some (.int z)) h locs) (hK : cells ≤ K) (hN : slots ≤ N) : own_G p e below s Q K N (T.setTop (mkF m pc Ls (.int z :: rest))) :=
  own_end X (fun h => by rw [hret] at h; cases h) hlocks (fun fs hr => retOut X hx hret rfl (Or.inl ⟨rfl, Or.inl rfl, _, rfl⟩) hd hr) (by rw [eT]; exact hQ) hK hN
theorem own_retJ (X : Stand p l e R s m args below meth c T locs cells slots) (hx : p.tables.exec = Jvm.exec) {pc : Nat} {Ls : Array Slot} {z : Int64} {rest : List Value} (hret : meth.sig.returnType = some .long) (hlocks : meth.locks = false) (hd : decode c.code pc = .ok (.lreturn, 1))
    {h : Heap} (eT : T.heap = h) (hQ : Q (some (.long z)) h locs) (hK : cells ≤ K) (hN : slots ≤ N) : own_G p e below s Q K N (T.setTop (mkF m pc Ls (.long z :: rest))) :=
  own_end X (fun h => by rw [hret] at h; cases h) hlocks (fun fs hr => retOut X hx hret rfl (Or.inr (Or.inl ⟨rfl, rfl, _, rfl⟩)) hd hr) (by rw [eT]; exact hQ) hK hN
theorem own_retD (X : Stand p l e R s m args below meth c T locs cells slots) (hx : p.tables.exec = Jvm.exec) {pc : Nat} {Ls : Array Slot} {z : UInt64} {rest : List Value} (hret : meth.sig.returnType = some .double) (hlocks : meth.locks = false) (hd : decode c.code pc = .ok (.dreturn, 1))
    {h : Heap} (eT : T.heap = h) (hQ : Q (some (.double z)) h locs) (hK : cells ≤ K) (hN : slots ≤ N) : own_G p e below s Q K N (T.setTop (mkF m pc Ls (.double z :: rest))) :=
  own_end X (fun h => by rw [hret] at h; cases h) hlocks (fun fs hr => retOut X hx hret rfl (Or.inr (Or.inr (Or.inl ⟨rfl, rfl, _, rfl⟩))) hd hr) (by rw [eT]; exact hQ) hK hN
theorem own_retA {t : FieldType} (ht : t.isReference = true) {w : Value} (hv : w.isRef = true) (X : Stand p l e R s m args below meth c T locs cells slots) (hx : p.tables.exec = Jvm.exec) {pc : Nat} {Ls : Array Slot} {rest : List Value} (hret : meth.sig.returnType = some t) (hlocks : meth.locks = false) (hd : decode c.code pc = .ok (.areturn, 1))
    {h : Heap} (eT : T.heap = h) (hQ : Q (some w) h locs) (hK : cells ≤ K) (hN : slots ≤ N) : own_G p e below s Q K N (T.setTop (mkF m pc Ls (w :: rest))) :=
  own_end X (fun h => by rw [hret] at h; cases h) hlocks (fun fs hr => retOut X hx hret (by cases t <;> first | rfl | (cases ht)) (Or.inr (Or.inr (Or.inr (Or.inr ⟨rfl, ht, hv⟩)))) hd hr) (by rw [eT]; exact hQ) hK hN
theorem own_retN {t : FieldType} (ht : t = .boolean ∨ t = .byte ∨ t = .char ∨ t = .short) (X : Stand p l e R s m args below meth c T locs cells slots) (hx : p.tables.exec = Jvm.exec) {pc : Nat} {Ls : Array Slot} {z : Int32} {rest : List Value} (hret : meth.sig.returnType = some t) (hlocks : meth.locks = false) (hd : decode c.code pc = .ok (.ireturn, 1))
    {h : Heap} (eT : T.heap = h) (hQ : Q (some (.int (nar t z))) h locs) (hK : cells ≤ K) (hN : slots ≤ N) : own_G p e below s Q K N (T.setTop (mkF m pc Ls (.int z :: rest))) :=
  own_end X (fun h => by rw [hret] at h; cases h) hlocks (fun fs hr => retN X hx hret ht hd hr) (by rw [eT]; exact hQ) hK hN
theorem own_ret0 (X : Stand p l e R s m args below meth c T locs cells slots) (hx : p.tables.exec = Jvm.exec) {pc : Nat} {Ls : Array Slot} (hret : meth.sig.returnType = none) (hlocks : meth.locks = false) (hd : decode c.code pc = .ok (.return_, 1))
    {h : Heap} (eT : T.heap = h) (hQ : Q none h locs) (hK : cells ≤ K) (hN : slots ≤ N) : own_G p e below s Q K N (T.setTop (mkF m pc Ls [])) :=
  own_end X (fun _ => rfl) hlocks (fun fs hr => X.returnOut hx hret hd hr) (by rw [eT]; exact hQ) hK hN
theorem own_lrem (X : Stand p l e R s m args below meth c T locs cells slots) (hx : p.tables.exec = Jvm.exec) {g : JFrame} {target : State} (hg : g.method = m) {x y : Int64} {rest : List Value} (hd : decode c.code g.pc = .ok (.lrem, 1)) (hs : g.stack = .long y :: .long x :: rest) (hy : y ≠ 0)
    (hr : Steps p.tables e below (T.setTop { g with pc := g.pc + 1, stack := .long (x % y) :: rest }) target) : Steps p.tables e below (T.setTop g) target :=
  XS.lrem X.here hx hg hd hs hy (by rw [lrem_mod]; exact hr)
theorem own_ic_ltY (X : Stand p l e R s m args below meth c T locs cells slots) (hx : p.tables.exec = Jvm.exec) {pc pc' : Nat} {Ls : Array Slot} {rest : List Value} {o : Int} {x y : Int32} (hd : decode c.code pc = .ok (.if_icmp .lt o, 3)) (ho : 0 ≤ (pc : Int) + o) (hp : ((pc : Int) + o).toNat = pc') (h : x < y) (k : own_G p e below s Q K N (T.setTop (mkF m pc' Ls rest))) : own_G p e below s Q K N (T.setTop (mkF m pc Ls (.int y :: .int x :: rest))) :=
  own_go (fun _ k => XS.icmpYes X.here hx rfl (pc0 := pc) (pc' := pc') rfl hd rfl (tlt h).1 ho hp k) k
theorem own_ic_ltN (X : Stand p l e R s m args below meth c T locs cells slots) (hx : p.tables.exec = Jvm.exec) {pc : Nat} {Ls : Array Slot} {rest : List Value} {o : Int} {x y : Int32} (hd : decode c.code pc = .ok (.if_icmp .lt o, 3)) (h : ¬ (x < y)) (k : own_G p e below s Q K N (T.setTop (mkF m (pc + 3) Ls rest))) : own_G p e below s Q K N (T.setTop (mkF m pc Ls (.int y :: .int x :: rest))) :=
  own_go (fun _ k => XS.icmpNo X.here hx rfl hd rfl (flt h).1 k) k
theorem own_ic_lt (X : Stand p l e R s m args below meth c T locs cells slots) (hx : p.tables.exec = Jvm.exec) {pc pc' : Nat} {Ls : Array Slot} {rest : List Value} {o : Int} {x y : Int32} (hd : decode c.code pc = .ok (.if_icmp .lt o, 3)) (ho : 0 ≤ (pc : Int) + o) (hp : ((pc : Int) + o).toNat = pc') (ky : x < y → own_G p e below s Q K N (T.setTop (mkF m pc' Ls rest))) (kn : ¬ (x < y) → own_G p e below s Q K N (T.setTop (mkF m (pc + 3) Ls rest))) : own_G p e below s Q K N (T.setTop (mkF m pc Ls (.int y :: .int x :: rest))) := by
  by_cases h : x < y
  · exact own_ic_ltY X hx hd ho hp h (ky h)
  · exact own_ic_ltN X hx hd h (kn h)
theorem own_if_ltY (X : Stand p l e R s m args below meth c T locs cells slots) (hx : p.tables.exec = Jvm.exec) {pc pc' : Nat} {Ls : Array Slot} {rest : List Value} {o : Int} {x : Int32} (hd : decode c.code pc = .ok (.ifCond .lt o, 3)) (ho : 0 ≤ (pc : Int) + o) (hp : ((pc : Int) + o).toNat = pc') (h : x < 0) (k : own_G p e below s Q K N (T.setTop (mkF m pc' Ls rest))) : own_G p e below s Q K N (T.setTop (mkF m pc Ls (.int x :: rest))) :=
  own_go (fun _ k => XS.ifYes X.here hx rfl (pc0 := pc) (pc' := pc') rfl hd rfl ((if0 _ _).trans (tlt h).1) ho hp k) k
theorem own_if_ltN (X : Stand p l e R s m args below meth c T locs cells slots) (hx : p.tables.exec = Jvm.exec) {pc : Nat} {Ls : Array Slot} {rest : List Value} {o : Int} {x : Int32} (hd : decode c.code pc = .ok (.ifCond .lt o, 3)) (h : ¬ (x < 0)) (k : own_G p e below s Q K N (T.setTop (mkF m (pc + 3) Ls rest))) : own_G p e below s Q K N (T.setTop (mkF m pc Ls (.int x :: rest))) :=
  own_go (fun _ k => XS.ifNo X.here hx rfl hd rfl ((if0 _ _).trans (flt h).1) k) k
theorem own_if_lt (X : Stand p l e R s m args below meth c T locs cells slots) (hx : p.tables.exec = Jvm.exec) {pc pc' : Nat} {Ls : Array Slot} {rest : List Value} {o : Int} {x : Int32} (hd : decode c.code pc = .ok (.ifCond .lt o, 3)) (ho : 0 ≤ (pc : Int) + o) (hp : ((pc : Int) + o).toNat = pc') (ky : x < 0 → own_G p e below s Q K N (T.setTop (mkF m pc' Ls rest))) (kn : ¬ (x < 0) → own_G p e below s Q K N (T.setTop (mkF m (pc + 3) Ls rest))) : own_G p e below s Q K N (T.setTop (mkF m pc Ls (.int x :: rest))) := by
  by_cases h : x < 0
  · exact own_if_ltY X hx hd ho hp h (ky h)
  · exact own_if_ltN X hx hd h (kn h)
theorem own_ic_geY (X : Stand p l e R s m args below meth c T locs cells slots) (hx : p.tables.exec = Jvm.exec) {pc pc' : Nat} {Ls : Array Slot} {rest : List Value} {o : Int} {x y : Int32} (hd : decode c.code pc = .ok (.if_icmp .ge o, 3)) (ho : 0 ≤ (pc : Int) + o) (hp : ((pc : Int) + o).toNat = pc') (h : ¬ (x < y)) (k : own_G p e below s Q K N (T.setTop (mkF m pc' Ls rest))) : own_G p e below s Q K N (T.setTop (mkF m pc Ls (.int y :: .int x :: rest))) :=
  own_go (fun _ k => XS.icmpYes X.here hx rfl (pc0 := pc) (pc' := pc') rfl hd rfl (flt h).2.1 ho hp k) k
theorem own_ic_geN (X : Stand p l e R s m args below meth c T locs cells slots) (hx : p.tables.exec = Jvm.exec) {pc : Nat} {Ls : Array Slot} {rest : List Value} {o : Int} {x y : Int32} (hd : decode c.code pc = .ok (.if_icmp .ge o, 3)) (h : x < y) (k : own_G p e below s Q K N (T.setTop (mkF m (pc + 3) Ls rest))) : own_G p e below s Q K N (T.setTop (mkF m pc Ls (.int y :: .int x :: rest))) :=
  own_go (fun _ k => XS.icmpNo X.here hx rfl hd rfl (tlt h).2.1 k) k
theorem own_ic_ge (X : Stand p l e R s m args below meth c T locs cells slots) (hx : p.tables.exec = Jvm.exec) {pc pc' : Nat} {Ls : Array Slot} {rest : List Value} {o : Int} {x y : Int32} (hd : decode c.code pc = .ok (.if_icmp .ge o, 3)) (ho : 0 ≤ (pc : Int) + o) (hp : ((pc : Int) + o).toNat = pc') (ky : ¬ (x < y) → own_G p e below s Q K N (T.setTop (mkF m pc' Ls rest))) (kn : x < y → own_G p e below s Q K N (T.setTop (mkF m (pc + 3) Ls rest))) : own_G p e below s Q K N (T.setTop (mkF m pc Ls (.int y :: .int x :: rest))) := by
  by_cases h : x < y
  · exact own_ic_geN X hx hd h (kn h)
  · exact own_ic_geY X hx hd ho hp h (ky h)
theorem own_if_geY (X : Stand p l e R s m args below meth c T locs cells slots) (hx : p.tables.exec = Jvm.exec) {pc pc' : Nat} {Ls : Array Slot} {rest : List Value} {o : Int} {x : Int32} (hd : decode c.code pc = .ok (.ifCond .ge o, 3)) (ho : 0 ≤ (pc : Int) + o) (hp : ((pc : Int) + o).toNat = pc') (h : ¬ (x < 0)) (k : own_G p e below s Q K N (T.setTop (mkF m pc' Ls rest))) : own_G p e below s Q K N (T.setTop (mkF m pc Ls (.int x :: rest))) :=
  own_go (fun _ k => XS.ifYes X.here hx rfl (pc0 := pc) (pc' := pc') rfl hd rfl ((if0 _ _).trans (flt h).2.1) ho hp k) k
theorem own_if_geN (X : Stand p l e R s m args below meth c T locs cells slots) (hx : p.tables.exec = Jvm.exec) {pc : Nat} {Ls : Array Slot} {rest : List Value} {o : Int} {x : Int32} (hd : decode c.code pc = .ok (.ifCond .ge o, 3)) (h : x < 0) (k : own_G p e below s Q K N (T.setTop (mkF m (pc + 3) Ls rest))) : own_G p e below s Q K N (T.setTop (mkF m pc Ls (.int x :: rest))) :=
  own_go (fun _ k => XS.ifNo X.here hx rfl hd rfl ((if0 _ _).trans (tlt h).2.1) k) k
theorem own_if_ge (X : Stand p l e R s m args below meth c T locs cells slots) (hx : p.tables.exec = Jvm.exec) {pc pc' : Nat} {Ls : Array Slot} {rest : List Value} {o : Int} {x : Int32} (hd : decode c.code pc = .ok (.ifCond .ge o, 3)) (ho : 0 ≤ (pc : Int) + o) (hp : ((pc : Int) + o).toNat = pc') (ky : ¬ (x < 0) → own_G p e below s Q K N (T.setTop (mkF m pc' Ls rest))) (kn : x < 0 → own_G p e below s Q K N (T.setTop (mkF m (pc + 3) Ls rest))) : own_G p e below s Q K N (T.setTop (mkF m pc Ls (.int x :: rest))) := by
  by_cases h : x < 0
  · exact own_if_geN X hx hd h (kn h)
  · exact own_if_geY X hx hd ho hp h (ky h)
theorem own_ic_gtY (X : Stand p l e R s m args below meth c T locs cells slots) (hx : p.tables.exec = Jvm.exec) {pc pc' : Nat} {Ls : Array Slot} {rest : List Value} {o : Int} {x y : Int32} (hd : decode c.code pc = .ok (.if_icmp .gt o, 3)) (ho : 0 ≤ (pc : Int) + o) (hp : ((pc : Int) + o).toNat = pc') (h : y < x) (k : own_G p e below s Q K N (T.setTop (mkF m pc' Ls rest))) : own_G p e below s Q K N (T.setTop (mkF m pc Ls (.int y :: .int x :: rest))) :=
  own_go (fun _ k => XS.icmpYes X.here hx rfl (pc0 := pc) (pc' := pc') rfl hd rfl (tlt h).2.2.1 ho hp k) k
theorem own_ic_gtN (X : Stand p l e R s m args below meth c T locs cells slots) (hx : p.tables.exec = Jvm.exec) {pc : Nat} {Ls : Array Slot} {rest : List Value} {o : Int} {x y : Int32} (hd : decode c.code pc = .ok (.if_icmp .gt o, 3)) (h : ¬ (y < x)) (k : own_G p e below s Q K N (T.setTop (mkF m (pc + 3) Ls rest))) : own_G p e below s Q K N (T.setTop (mkF m pc Ls (.int y :: .int x :: rest))) :=
  own_go (fun _ k => XS.icmpNo X.here hx rfl hd rfl (flt h).2.2.1 k) k
theorem own_ic_gt (X : Stand p l e R s m args below meth c T locs cells slots) (hx : p.tables.exec = Jvm.exec) {pc pc' : Nat} {Ls : Array Slot} {rest : List Value} {o : Int} {x y : Int32} (hd : decode c.code pc = .ok (.if_icmp .gt o, 3)) (ho : 0 ≤ (pc : Int) + o) (hp : ((pc : Int) + o).toNat = pc') (ky : y < x → own_G p e below s Q K N (T.setTop (mkF m pc' Ls rest))) (kn : ¬ (y < x) → own_G p e below s Q K N (T.setTop (mkF m (pc + 3) Ls rest))) : own_G p e below s Q K N (T.setTop (mkF m pc Ls (.int y :: .int x :: rest))) := by
  by_cases h : y < x
  · exact own_ic_gtY X hx hd ho hp h (ky h)
  · exact own_ic_gtN X hx hd h (kn h)
theorem own_if_gtY (X : Stand p l e R s m args below meth c T locs cells slots) (hx : p.tables.exec = Jvm.exec) {pc pc' : Nat} {Ls : Array Slot} {rest : List Value} {o : Int} {x : Int32} (hd : decode c.code pc = .ok (.ifCond .gt o, 3)) (ho : 0 ≤ (pc : Int) + o) (hp : ((pc : Int) + o).toNat = pc') (h : 0 < x) (k : own_G p e below s Q K N (T.setTop (mkF m pc' Ls rest))) : own_G p e below s Q K N (T.setTop (mkF m pc Ls (.int x :: rest))) :=
  own_go (fun _ k => XS.ifYes X.here hx rfl (pc0 := pc) (pc' := pc') rfl hd rfl ((if0 _ _).trans (tlt h).2.2.1) ho hp k) k
theorem own_if_gtN (X : Stand p l e R s m args below meth c T locs cells slots) (hx : p.tables.exec = Jvm.exec) {pc : Nat} {Ls : Array Slot} {rest : List Value} {o : Int} {x : Int32} (hd : decode c.code pc = .ok (.ifCond .gt o, 3)) (h : ¬ (0 < x)) (k : own_G p e below s Q K N (T.setTop (mkF m (pc + 3) Ls rest))) : own_G p e below s Q K N (T.setTop (mkF m pc Ls (.int x :: rest))) :=
  own_go (fun _ k => XS.ifNo X.here hx rfl hd rfl ((if0 _ _).trans (flt h).2.2.1) k) k
theorem own_if_gt (X : Stand p l e R s m args below meth c T locs cells slots) (hx : p.tables.exec = Jvm.exec) {pc pc' : Nat} {Ls : Array Slot} {rest : List Value} {o : Int} {x : Int32} (hd : decode c.code pc = .ok (.ifCond .gt o, 3)) (ho : 0 ≤ (pc : Int) + o) (hp : ((pc : Int) + o).toNat = pc') (ky : 0 < x → own_G p e below s Q K N (T.setTop (mkF m pc' Ls rest))) (kn : ¬ (0 < x) → own_G p e below s Q K N (T.setTop (mkF m (pc + 3) Ls rest))) : own_G p e below s Q K N (T.setTop (mkF m pc Ls (.int x :: rest))) := by
  by_cases h : 0 < x
  · exact own_if_gtY X hx hd ho hp h (ky h)
  · exact own_if_gtN X hx hd h (kn h)
theorem own_ic_leY (X : Stand p l e R s m args below meth c T locs cells slots) (hx : p.tables.exec = Jvm.exec) {pc pc' : Nat} {Ls : Array Slot} {rest : List Value} {o : Int} {x y : Int32} (hd : decode c.code pc = .ok (.if_icmp .le o, 3)) (ho : 0 ≤ (pc : Int) + o) (hp : ((pc : Int) + o).toNat = pc') (h : ¬ (y < x)) (k : own_G p e below s Q K N (T.setTop (mkF m pc' Ls rest))) : own_G p e below s Q K N (T.setTop (mkF m pc Ls (.int y :: .int x :: rest))) :=
  own_go (fun _ k => XS.icmpYes X.here hx rfl (pc0 := pc) (pc' := pc') rfl hd rfl (flt h).2.2.2 ho hp k) k
theorem own_ic_leN (X : Stand p l e R s m args below meth c T locs cells slots) (hx : p.tables.exec = Jvm.exec) {pc : Nat} {Ls : Array Slot} {rest : List Value} {o : Int} {x y : Int32} (hd : decode c.code pc = .ok (.if_icmp .le o, 3)) (h : y < x) (k : own_G p e below s Q K N (T.setTop (mkF m (pc + 3) Ls rest))) : own_G p e below s Q K N (T.setTop (mkF m pc Ls (.int y :: .int x :: rest))) :=
  own_go (fun _ k => XS.icmpNo X.here hx rfl hd rfl (tlt h).2.2.2 k) k
theorem own_ic_le (X : Stand p l e R s m args below meth c T locs cells slots) (hx : p.tables.exec = Jvm.exec) {pc pc' : Nat} {Ls : Array Slot} {rest : List Value} {o : Int} {x y : Int32} (hd : decode c.code pc = .ok (.if_icmp .le o, 3)) (ho : 0 ≤ (pc : Int) + o) (hp : ((pc : Int) + o).toNat = pc') (ky : ¬ (y < x) → own_G p e below s Q K N (T.setTop (mkF m pc' Ls rest))) (kn : y < x → own_G p e below s Q K N (T.setTop (mkF m (pc + 3) Ls rest))) : own_G p e below s Q K N (T.setTop (mkF m pc Ls (.int y :: .int x :: rest))) := by
  by_cases h : y < x
  · exact own_ic_leN X hx hd h (kn h)
  · exact own_ic_leY X hx hd ho hp h (ky h)
theorem own_if_leY (X : Stand p l e R s m args below meth c T locs cells slots) (hx : p.tables.exec = Jvm.exec) {pc pc' : Nat} {Ls : Array Slot} {rest : List Value} {o : Int} {x : Int32} (hd : decode c.code pc = .ok (.ifCond .le o, 3)) (ho : 0 ≤ (pc : Int) + o) (hp : ((pc : Int) + o).toNat = pc') (h : ¬ (0 < x)) (k : own_G p e below s Q K N (T.setTop (mkF m pc' Ls rest))) : own_G p e below s Q K N (T.setTop (mkF m pc Ls (.int x :: rest))) :=
  own_go (fun _ k => XS.ifYes X.here hx rfl (pc0 := pc) (pc' := pc') rfl hd rfl ((if0 _ _).trans (flt h).2.2.2) ho hp k) k
theorem own_if_leN (X : Stand p l e R s m args below meth c T locs cells slots) (hx : p.tables.exec = Jvm.exec) {pc : Nat} {Ls : Array Slot} {rest : List Value} {o : Int} {x : Int32} (hd : decode c.code pc = .ok (.ifCond .le o, 3)) (h : 0 < x) (k : own_G p e below s Q K N (T.setTop (mkF m (pc + 3) Ls rest))) : own_G p e below s Q K N (T.setTop (mkF m pc Ls (.int x :: rest))) :=
  own_go (fun _ k => XS.ifNo X.here hx rfl hd rfl ((if0 _ _).trans (tlt h).2.2.2) k) k
theorem own_if_le (X : Stand p l e R s m args below meth c T locs cells slots) (hx : p.tables.exec = Jvm.exec) {pc pc' : Nat} {Ls : Array Slot} {rest : List Value} {o : Int} {x : Int32} (hd : decode c.code pc = .ok (.ifCond .le o, 3)) (ho : 0 ≤ (pc : Int) + o) (hp : ((pc : Int) + o).toNat = pc') (ky : ¬ (0 < x) → own_G p e below s Q K N (T.setTop (mkF m pc' Ls rest))) (kn : 0 < x → own_G p e below s Q K N (T.setTop (mkF m (pc + 3) Ls rest))) : own_G p e below s Q K N (T.setTop (mkF m pc Ls (.int x :: rest))) := by
  by_cases h : 0 < x
  · exact own_if_leN X hx hd h (kn h)
  · exact own_if_leY X hx hd ho hp h (ky h)
theorem own_ic_eqY (X : Stand p l e R s m args below meth c T locs cells slots) (hx : p.tables.exec = Jvm.exec) {pc pc' : Nat} {Ls : Array Slot} {rest : List Value} {o : Int} {x y : Int32} (hd : decode c.code pc = .ok (.if_icmp .eq o, 3)) (ho : 0 ≤ (pc : Int) + o) (hp : ((pc : Int) + o).toNat = pc') (h : x = y) (k : own_G p e below s Q K N (T.setTop (mkF m pc' Ls rest))) : own_G p e below s Q K N (T.setTop (mkF m pc Ls (.int y :: .int x :: rest))) :=
  own_go (fun _ k => XS.icmpYes X.here hx rfl (pc0 := pc) (pc' := pc') rfl hd rfl (teq h).1 ho hp k) k
theorem own_ic_eqN (X : Stand p l e R s m args below meth c T locs cells slots) (hx : p.tables.exec = Jvm.exec) {pc : Nat} {Ls : Array Slot} {rest : List Value} {o : Int} {x y : Int32} (hd : decode c.code pc = .ok (.if_icmp .eq o, 3)) (h : ¬ (x = y)) (k : own_G p e below s Q K N (T.setTop (mkF m (pc + 3) Ls rest))) : own_G p e below s Q K N (T.setTop (mkF m pc Ls (.int y :: .int x :: rest))) :=
  own_go (fun _ k => XS.icmpNo X.here hx rfl hd rfl (feq h).1 k) k
theorem own_ic_eq (X : Stand p l e R s m args below meth c T locs cells slots) (hx : p.tables.exec = Jvm.exec) {pc pc' : Nat} {Ls : Array Slot} {rest : List Value} {o : Int} {x y : Int32} (hd : decode c.code pc = .ok (.if_icmp .eq o, 3)) (ho : 0 ≤ (pc : Int) + o) (hp : ((pc : Int) + o).toNat = pc') (ky : x = y → own_G p e below s Q K N (T.setTop (mkF m pc' Ls rest))) (kn : ¬ (x = y) → own_G p e below s Q K N (T.setTop (mkF m (pc + 3) Ls rest))) : own_G p e below s Q K N (T.setTop (mkF m pc Ls (.int y :: .int x :: rest))) := by
  by_cases h : x = y
  · exact own_ic_eqY X hx hd ho hp h (ky h)
  · exact own_ic_eqN X hx hd h (kn h)
theorem own_if_eqY (X : Stand p l e R s m args below meth c T locs cells slots) (hx : p.tables.exec = Jvm.exec) {pc pc' : Nat} {Ls : Array Slot} {rest : List Value} {o : Int} {x : Int32} (hd : decode c.code pc = .ok (.ifCond .eq o, 3)) (ho : 0 ≤ (pc : Int) + o) (hp : ((pc : Int) + o).toNat = pc') (h : x = 0) (k : own_G p e below s Q K N (T.setTop (mkF m pc' Ls rest))) : own_G p e below s Q K N (T.setTop (mkF m pc Ls (.int x :: rest))) :=
  own_go (fun _ k => XS.ifYes X.here hx rfl (pc0 := pc) (pc' := pc') rfl hd rfl ((if0 _ _).trans (teq h).1) ho hp k) k
theorem own_if_eqN (X : Stand p l e R s m args below meth c T locs cells slots) (hx : p.tables.exec = Jvm.exec) {pc : Nat} {Ls : Array Slot} {rest : List Value} {o : Int} {x : Int32} (hd : decode c.code pc = .ok (.ifCond .eq o, 3)) (h : ¬ (x = 0)) (k : own_G p e below s Q K N (T.setTop (mkF m (pc + 3) Ls rest))) : own_G p e below s Q K N (T.setTop (mkF m pc Ls (.int x :: rest))) :=
  own_go (fun _ k => XS.ifNo X.here hx rfl hd rfl ((if0 _ _).trans (feq h).1) k) k
theorem own_if_eq (X : Stand p l e R s m args below meth c T locs cells slots) (hx : p.tables.exec = Jvm.exec) {pc pc' : Nat} {Ls : Array Slot} {rest : List Value} {o : Int} {x : Int32} (hd : decode c.code pc = .ok (.ifCond .eq o, 3)) (ho : 0 ≤ (pc : Int) + o) (hp : ((pc : Int) + o).toNat = pc') (ky : x = 0 → own_G p e below s Q K N (T.setTop (mkF m pc' Ls rest))) (kn : ¬ (x = 0) → own_G p e below s Q K N (T.setTop (mkF m (pc + 3) Ls rest))) : own_G p e below s Q K N (T.setTop (mkF m pc Ls (.int x :: rest))) := by
  by_cases h : x = 0
  · exact own_if_eqY X hx hd ho hp h (ky h)
  · exact own_if_eqN X hx hd h (kn h)
theorem own_ic_neY (X : Stand p l e R s m args below meth c T locs cells slots) (hx : p.tables.exec = Jvm.exec) {pc pc' : Nat} {Ls : Array Slot} {rest : List Value} {o : Int} {x y : Int32} (hd : decode c.code pc = .ok (.if_icmp .ne o, 3)) (ho : 0 ≤ (pc : Int) + o) (hp : ((pc : Int) + o).toNat = pc') (h : ¬ (x = y)) (k : own_G p e below s Q K N (T.setTop (mkF m pc' Ls rest))) : own_G p e below s Q K N (T.setTop (mkF m pc Ls (.int y :: .int x :: rest))) :=
  own_go (fun _ k => XS.icmpYes X.here hx rfl (pc0 := pc) (pc' := pc') rfl hd rfl (feq h).2 ho hp k) k
theorem own_ic_neN (X : Stand p l e R s m args below meth c T locs cells slots) (hx : p.tables.exec = Jvm.exec) {pc : Nat} {Ls : Array Slot} {rest : List Value} {o : Int} {x y : Int32} (hd : decode c.code pc = .ok (.if_icmp .ne o, 3)) (h : x = y) (k : own_G p e below s Q K N (T.setTop (mkF m (pc + 3) Ls rest))) : own_G p e below s Q K N (T.setTop (mkF m pc Ls (.int y :: .int x :: rest))) :=
  own_go (fun _ k => XS.icmpNo X.here hx rfl hd rfl (teq h).2 k) k
theorem own_ic_ne (X : Stand p l e R s m args below meth c T locs cells slots) (hx : p.tables.exec = Jvm.exec) {pc pc' : Nat} {Ls : Array Slot} {rest : List Value} {o : Int} {x y : Int32} (hd : decode c.code pc = .ok (.if_icmp .ne o, 3)) (ho : 0 ≤ (pc : Int) + o) (hp : ((pc : Int) + o).toNat = pc') (ky : ¬ (x = y) → own_G p e below s Q K N (T.setTop (mkF m pc' Ls rest))) (kn : x = y → own_G p e below s Q K N (T.setTop (mkF m (pc + 3) Ls rest))) : own_G p e below s Q K N (T.setTop (mkF m pc Ls (.int y :: .int x :: rest))) := by
  by_cases h : x = y
  · exact own_ic_neN X hx hd h (kn h)
  · exact own_ic_neY X hx hd ho hp h (ky h)
theorem own_if_neY (X : Stand p l e R s m args below meth c T locs cells slots) (hx : p.tables.exec = Jvm.exec) {pc pc' : Nat} {Ls : Array Slot} {rest : List Value} {o : Int} {x : Int32} (hd : decode c.code pc = .ok (.ifCond .ne o, 3)) (ho : 0 ≤ (pc : Int) + o) (hp : ((pc : Int) + o).toNat = pc') (h : ¬ (x = 0)) (k : own_G p e below s Q K N (T.setTop (mkF m pc' Ls rest))) : own_G p e below s Q K N (T.setTop (mkF m pc Ls (.int x :: rest))) :=
  own_go (fun _ k => XS.ifYes X.here hx rfl (pc0 := pc) (pc' := pc') rfl hd rfl ((if0 _ _).trans (feq h).2) ho hp k) k
theorem own_if_neN (X : Stand p l e R s m args below meth c T locs cells slots) (hx : p.tables.exec = Jvm.exec) {pc : Nat} {Ls : Array Slot} {rest : List Value} {o : Int} {x : Int32} (hd : decode c.code pc = .ok (.ifCond .ne o, 3)) (h : x = 0) (k : own_G p e below s Q K N (T.setTop (mkF m (pc + 3) Ls rest))) : own_G p e below s Q K N (T.setTop (mkF m pc Ls (.int x :: rest))) :=
  own_go (fun _ k => XS.ifNo X.here hx rfl hd rfl ((if0 _ _).trans (teq h).2) k) k
theorem own_if_ne (X : Stand p l e R s m args below meth c T locs cells slots) (hx : p.tables.exec = Jvm.exec) {pc pc' : Nat} {Ls : Array Slot} {rest : List Value} {o : Int} {x : Int32} (hd : decode c.code pc = .ok (.ifCond .ne o, 3)) (ho : 0 ≤ (pc : Int) + o) (hp : ((pc : Int) + o).toNat = pc') (ky : ¬ (x = 0) → own_G p e below s Q K N (T.setTop (mkF m pc' Ls rest))) (kn : x = 0 → own_G p e below s Q K N (T.setTop (mkF m (pc + 3) Ls rest))) : own_G p e below s Q K N (T.setTop (mkF m pc Ls (.int x :: rest))) := by
  by_cases h : x = 0
  · exact own_if_neN X hx hd h (kn h)
  · exact own_if_neY X hx hd ho hp h (ky h)
theorem own_nar1 : nar .boolean (1 : Int32) = 1 := rfl
theorem own_nar0 : nar .boolean (0 : Int32) = 0 := rfl
theorem own_mask (x : Int32) (k : Nat) (hk : k < 2147483648) : ∃ n : Nat, n ≤ k ∧ (x &&& Int32.ofNat k) = Int32.ofNat n := by
  refine ⟨(x &&& Int32.ofNat k).toBitVec.toNat, ?_, ?_⟩
  · have h : (Int32.ofNat k).toBitVec.toNat = k := by
      show (BitVec.ofNat 32 k).toNat = k
      rw [BitVec.toNat_ofNat]; omega
    simp only [Int32.toBitVec_and, BitVec.toNat_and, h]
    exact Nat.and_le_right
  · apply Int32.toBitVec_inj.mp
    show _ = BitVec.ofNat 32 _
    rw [BitVec.ofNat_toNat]; simp
end OwnKit
def own_min (x y : Int32) : Int32 := if y < x then y else x
def own_max (x y : Int32) : Int32 := if x < y then y else x
theorem own_mm (x y : Int32) : (own_min x y).toInt ≤ (own_max x y).toInt := by
  rw [own_min, own_max]
  simp only [Int32.lt_iff_toInt_lt]
  split <;> split <;> omega
abbrev own_k (x : UInt64) : Int := FP.Core.dkey x
abbrev own_N (x : UInt64) : Prop := FP.Core.val64 x ≠ .nan
abbrev own_pk := Native.java_lang_Math.nans.pick64
def own_cl (v lo hi : UInt64) : UInt64 := own_pk false (own_pk true v lo) hi
def own_rf (v lo hi : UInt64) : UInt64 := if cmpValue (FP.dcmp v lo) .g < 0 then lo else if cmpValue (FP.dcmp hi v) .g < 0 then hi else v
theorem own_cases {a b : UInt64} (ha : own_N a) (hb : own_N b) : (FP.dcmp a b = some .lt ∧ own_k a < own_k b) ∨ (FP.dcmp a b = some .eq ∧ own_k a = own_k b) ∨ (FP.dcmp a b = some .gt ∧ own_k b < own_k a) := by
  rcases Int.lt_trichotomy (own_k a) (own_k b) with h | h | h
  · exact Or.inl ⟨(FP.Core.dcmp_lt_key ha hb).mpr h, h⟩
  · exact Or.inr (Or.inl ⟨(FP.Core.dcmp_eq_key ha hb).mpr h, h⟩)
  · exact Or.inr (Or.inr ⟨(FP.Core.dcmp_gt_key ha hb).mpr h, h⟩)
theorem own_pkt {a b : UInt64} (ha : own_N a) (hb : own_N b) : own_N (own_pk true a b) ∧ own_k (own_pk true a b) = max (own_k a) (own_k b) := by
  rcases own_cases ha hb with ⟨h, k⟩ | ⟨h, k⟩ | ⟨h, k⟩
  · have : own_pk true a b = b := by simp [own_pk, Native.java_lang_Math.nans.pick64, h]
    rw [this]; exact ⟨hb, by omega⟩
  · have : own_pk true a b = a ∨ own_pk true a b = b := by
      simp only [own_pk, Native.java_lang_Math.nans.pick64, h]
      split
      · exact Or.inr rfl
      · exact Or.inl rfl
    rcases this with q | q
    · rw [q]; exact ⟨ha, by omega⟩
    · rw [q]; exact ⟨hb, by omega⟩
  · have : own_pk true a b = a := by simp [own_pk, Native.java_lang_Math.nans.pick64, h]
    rw [this]; exact ⟨ha, by omega⟩
theorem own_pkf {a b : UInt64} (ha : own_N a) (hb : own_N b) : own_N (own_pk false a b) ∧ own_k (own_pk false a b) = min (own_k a) (own_k b) := by
  rcases own_cases ha hb with ⟨h, k⟩ | ⟨h, k⟩ | ⟨h, k⟩
  · have : own_pk false a b = a := by simp [own_pk, Native.java_lang_Math.nans.pick64, h]
    rw [this]; exact ⟨ha, by omega⟩
  · have : own_pk false a b = a ∨ own_pk false a b = b := by
      simp only [own_pk, Native.java_lang_Math.nans.pick64, h]
      split
      · exact Or.inr rfl
      · exact Or.inl rfl
    rcases this with q | q
    · rw [q]; exact ⟨ha, by omega⟩
    · rw [q]; exact ⟨hb, by omega⟩
  · have : own_pk false a b = b := by simp [own_pk, Native.java_lang_Math.nans.pick64, h]
    rw [this]; exact ⟨hb, by omega⟩
theorem own_lt0 {a b : UInt64} (ha : own_N a) (hb : own_N b) : cmpValue (FP.dcmp a b) .g < 0 ↔ own_k a < own_k b := by
  rcases own_cases ha hb with ⟨h, k⟩ | ⟨h, k⟩ | ⟨h, k⟩
  · rw [h]; exact ⟨fun _ => k, fun _ => by decide⟩
  · rw [h]; exact ⟨fun q => absurd q (by decide), fun q => by omega⟩
  · rw [h]; exact ⟨fun q => absurd q (by decide), fun q => by omega⟩
theorem own_rfk {v lo hi : UInt64} (hv : own_N v) (hl : own_N lo) (hh : own_N hi) (h : own_k lo ≤ own_k hi) : own_N (own_rf v lo hi) ∧ own_k (own_rf v lo hi) = min (max (own_k v) (own_k lo)) (own_k hi) := by
  rw [own_rf]
  by_cases h1 : own_k v < own_k lo
  · rw [if_pos ((own_lt0 hv hl).mpr h1)]; exact ⟨hl, by omega⟩
  · rw [if_neg (fun q => h1 ((own_lt0 hv hl).mp q))]
    by_cases h2 : own_k hi < own_k v
    · rw [if_pos ((own_lt0 hh hv).mpr h2)]; exact ⟨hh, by omega⟩
    · rw [if_neg (fun q => h2 ((own_lt0 hh hv).mp q))]; exact ⟨hv, by omega⟩
theorem own_eq {v lo hi : UInt64} (hv : own_N v) (hl : own_N lo) (hh : own_N hi) (h : own_k lo ≤ own_k hi) : cmpValue (FP.dcmp (own_cl v lo hi) (own_rf v lo hi)) .l = 0 := by
  obtain ⟨n1, k1⟩ := own_pkt hv hl
  obtain ⟨n2, k2⟩ := own_pkf n1 hh
  obtain ⟨n3, k3⟩ := own_rfk hv hl hh h
  have : FP.dcmp (own_cl v lo hi) (own_rf v lo hi) = some .eq := (FP.Core.dcmp_eq_key n2 n3).mpr (k2.trans ((by rw [k1]) : min (own_k (own_pk true v lo)) (own_k hi) = min (max (own_k v) (own_k lo)) (own_k hi)) |>.trans k3.symm)
  rw [this]; rfl
theorem own_Ni (n : Int32) : own_N (FP.i2d n) := Jvm.Free.Fl.val64_no.mp (Jvm.Free.Fl.i2d_fin n).noNaN
theorem own_ki {m n : Int32} (h : m.toInt ≤ n.toInt) : own_k (FP.i2d m) ≤ own_k (FP.i2d n) := by
  have e := FP.Core.dcmp_int (FP.Core.i2d_int m) (FP.Core.i2d_int n)
  rcases Int.lt_or_le (own_k (FP.i2d n)) (own_k (FP.i2d m)) with q | q
  · have g := (FP.Core.dcmp_gt_key (own_Ni m) (own_Ni n)).mpr q
    have g' : FP.Core.dcmp (FP.Core.i2d m) (FP.Core.i2d n) = some .gt := g
    rw [g'] at e
    have := Option.some.inj e
    rw [eq_comm, Int.compare_eq_gt] at this
    omega
  · exact q
theorem own_Nlo : own_N 18442240474082181120 := by decide +kernel
theorem own_Nhi : own_N 9218868437227405312 := by decide +kernel
theorem own_klo (n : Int32) : own_k 18442240474082181120 ≤ own_k (FP.i2d n) := by
  have g := (FP.Core.fin_lt_inf (Jvm.Free.Fl.fin64_core.mp (Jvm.Free.Fl.i2d_fin n))).2.1
  exact Int.le_of_lt ((FP.Core.dcmp_gt_key (own_Ni n) own_Nlo).mp g)
theorem own_khi (n : Int32) : own_k (FP.i2d n) ≤ own_k 9218868437227405312 := by
  have g := (FP.Core.fin_lt_inf (Jvm.Free.Fl.fin64_core.mp (Jvm.Free.Fl.i2d_fin n))).1
  exact Int.le_of_lt ((FP.Core.dcmp_lt_key (own_Ni n) own_Nhi).mp g)
theorem d1_0 : decode jdk_29_method_69_code 0 = .ok (.iload_n 0, 1) := by decide +kernel
theorem d1_1 : decode jdk_29_method_69_code 1 = .ok (.iload_n 1, 1) := by decide +kernel
theorem d1_2 : decode jdk_29_method_69_code 2 = .ok (.if_icmp .gt 7, 3) := by decide +kernel
theorem d1_5 : decode jdk_29_method_69_code 5 = .ok (.iload_n 0, 1) := by decide +kernel
theorem d1_6 : decode jdk_29_method_69_code 6 = .ok (.goto 4, 3) := by decide +kernel
theorem d1_9 : decode jdk_29_method_69_code 9 = .ok (.iload_n 1, 1) := by decide +kernel
theorem d1_10 : decode jdk_29_method_69_code 10 = .ok (.ireturn, 1) := by decide +kernel
theorem ef_rmMin (m : MethodId) (x0 : Int32) (x1 : Int32) : entryFrame m #[(.int x0), (.int x1)] 2 = mkF m 0 #[.val (.int x0), .val (.int x1)] [] := by first | (simp [entryFrame, mkF, argsToLocals, Value.category]; done) | rfl
def Q_rmMin (Z : State) (x0 x1 : Int32) (h0 : Heap) (n0 : Nat) : Option Value → Heap → List Loc → Prop := fun v h L => v = some (.int (own_min x0 x1)) ∧ Fr n0 L ∧ h = h0
set_option maxRecDepth 65536 in
set_option maxHeartbeats 40000000 in
theorem rmMin (l : Launch) (Z : State) (a0 : Array Value) (hw : ∀ d ∈ tables_1, d.before a0 Z = true) (ws : List Jvm.Cond) (x0 x1 : Int32) (h0 : Heap) (n0 : Nat) (Z0 : n0 ≤ h0.size)  :
    MetFree l (⟨"java/lang/Math", "min", "(II)I"⟩ : MethodName) (head1 (Jvm.Cond.code (⟨"java/lang/Math", "min", "(II)I"⟩ : MethodName) jdk_29_method_69_code 2 (some .int) :: ws) ({ frames := 0, cells := 0, slots := 0, locals := 0 } : Room)) (fun as_ U => as_ = #[(.int x0), (.int x1)] ∧ Z.Warmed39 U.vm ∧ U.heap = h0) (fun _ _ _ _ _ => True) (fun _ U o U' => ∃ v L, o = .returned v ∧ (Q_rmMin Z x0 x1 h0 n0) v U'.heap L ∧ FrameEnd U o U' L ({ frames := 0, cells := 0, slots := 0, locals := 0 } : Room).cells ({ frames := 0, cells := 0, slots := 0, locals := 0 } : Room).slots) := by
  refine MetFree.of_bodySF (Jvm.Free.JP.mathPlain rfl (by decide +kernel)) hisR ?_
  intro p e s m args below meth c s₁ Bd hml0 hP hK
  obtain ⟨rfl, hZ, hh⟩ := hP
  have hx := Bd.exec
  have hby := Bd.bytes
  have hml : c.maxLocals = 2 := hml0
  have hown : s.vm.findClass "java/lang/Math" = some m.cls := findClass_of_methodNamed Bd.named
  have hnm := (name_of_methodNamed Bd.named Bd.method).1
  have X0 : Stand p l e ({ frames := 0, cells := 0, slots := 0, locals := 0 } : Room) s m #[(.int x0), (.int x1)] below meth c s₁ [] 0 0 := Stand.of_body Bd
  have e0 : s₁.heap = h0 := by rw [← hh, Bd.state]; rfl
  have N0 := Fr.nil n0
  show own_G p e below s (Q_rmMin Z x0 x1 h0 n0) ({ frames := 0, cells := 0, slots := 0, locals := 0 } : Room).cells ({ frames := 0, cells := 0, slots := 0, locals := 0 } : Room).slots (s₁.setTop (entryFrame m #[(.int x0), (.int x1)] 2))
  rw [ef_rmMin m x0 x1]
  show own_G p e below s _ _ _ (s₁.setTop (mkF m 0 #[.val (.int x0), .val (.int x1)] []))
  refine own_go (fun _ kk_ => XS.iloadN X0.here hx rfl (hb hby d1_0) rfl kk_) ?_
  show own_G p e below s _ _ _ (s₁.setTop (mkF m 1 #[.val (.int x0), .val (.int x1)] [(.int x0)]))
  refine own_go (fun _ kk_ => XS.iloadN X0.here hx rfl (hb hby d1_1) rfl kk_) ?_
  show own_G p e below s _ _ _ (s₁.setTop (mkF m 2 #[.val (.int x0), .val (.int x1)] [(.int x1), (.int x0)]))
  refine own_ic_gt X0 hx (pc := 2) (pc' := 9) (hb hby d1_2) (by decide) (by decide) (fun hc2 => ?_) (fun hc2 => ?_)
  · show own_G p e below s _ _ _ (s₁.setTop (mkF m 9 #[.val (.int x0), .val (.int x1)] []))
    refine own_go (fun _ kk_ => XS.iloadN X0.here hx rfl (hb hby d1_9) rfl kk_) ?_
    show own_G p e below s _ _ _ (s₁.setTop (mkF m 10 #[.val (.int x0), .val (.int x1)] [(.int x1)]))
    exact own_retI X0 hx Bd.returns (BodyLoose.notSynchronized Bd) (hb hby d1_10) e0 ⟨by simp [own_min, hc2], N0, rfl⟩ (by decide) (by decide)
  · show own_G p e below s _ _ _ (s₁.setTop (mkF m 5 #[.val (.int x0), .val (.int x1)] []))
    refine own_go (fun _ kk_ => XS.iloadN X0.here hx rfl (hb hby d1_5) rfl kk_) ?_
    show own_G p e below s _ _ _ (s₁.setTop (mkF m 6 #[.val (.int x0), .val (.int x1)] [(.int x0)]))
    refine own_go (fun _ kk_ => XS.goto X0.here hx rfl (pc0 := 6) (pc' := 10) rfl (hb hby d1_6) (by decide) (by decide) kk_) ?_
    show own_G p e below s _ _ _ (s₁.setTop (mkF m 10 #[.val (.int x0), .val (.int x1)] [(.int x0)]))
    exact own_retI X0 hx Bd.returns (BodyLoose.notSynchronized Bd) (hb hby d1_10) e0 ⟨by simp [own_min, hc2], N0, rfl⟩ (by decide) (by decide)
theorem d2_0 : decode jdk_29_method_65_code 0 = .ok (.iload_n 0, 1) := by decide +kernel
theorem d2_1 : decode jdk_29_method_65_code 1 = .ok (.iload_n 1, 1) := by decide +kernel
theorem d2_2 : decode jdk_29_method_65_code 2 = .ok (.if_icmp .lt 7, 3) := by decide +kernel
theorem d2_5 : decode jdk_29_method_65_code 5 = .ok (.iload_n 0, 1) := by decide +kernel
theorem d2_6 : decode jdk_29_method_65_code 6 = .ok (.goto 4, 3) := by decide +kernel
theorem d2_9 : decode jdk_29_method_65_code 9 = .ok (.iload_n 1, 1) := by decide +kernel
theorem d2_10 : decode jdk_29_method_65_code 10 = .ok (.ireturn, 1) := by decide +kernel
theorem ef_rmMax (m : MethodId) (x0 : Int32) (x1 : Int32) : entryFrame m #[(.int x0), (.int x1)] 2 = mkF m 0 #[.val (.int x0), .val (.int x1)] [] := by first | (simp [entryFrame, mkF, argsToLocals, Value.category]; done) | rfl
def Q_rmMax (Z : State) (x0 x1 : Int32) (h0 : Heap) (n0 : Nat) : Option Value → Heap → List Loc → Prop := fun v h L => v = some (.int (own_max x0 x1)) ∧ Fr n0 L ∧ h = h0
set_option maxRecDepth 65536 in
set_option maxHeartbeats 40000000 in
theorem rmMax (l : Launch) (Z : State) (a0 : Array Value) (hw : ∀ d ∈ tables_1, d.before a0 Z = true) (ws : List Jvm.Cond) (x0 x1 : Int32) (h0 : Heap) (n0 : Nat) (Z0 : n0 ≤ h0.size)  :
    MetFree l (⟨"java/lang/Math", "max", "(II)I"⟩ : MethodName) (head1 (Jvm.Cond.code (⟨"java/lang/Math", "max", "(II)I"⟩ : MethodName) jdk_29_method_65_code 2 (some .int) :: ws) ({ frames := 0, cells := 0, slots := 0, locals := 0 } : Room)) (fun as_ U => as_ = #[(.int x0), (.int x1)] ∧ Z.Warmed39 U.vm ∧ U.heap = h0) (fun _ _ _ _ _ => True) (fun _ U o U' => ∃ v L, o = .returned v ∧ (Q_rmMax Z x0 x1 h0 n0) v U'.heap L ∧ FrameEnd U o U' L ({ frames := 0, cells := 0, slots := 0, locals := 0 } : Room).cells ({ frames := 0, cells := 0, slots := 0, locals := 0 } : Room).slots) := by
  refine MetFree.of_bodySF (Jvm.Free.JP.mathPlain rfl (by decide +kernel)) hisR ?_
  intro p e s m args below meth c s₁ Bd hml0 hP hK
  obtain ⟨rfl, hZ, hh⟩ := hP
  have hx := Bd.exec
  have hby := Bd.bytes
  have hml : c.maxLocals = 2 := hml0
  have hown : s.vm.findClass "java/lang/Math" = some m.cls := findClass_of_methodNamed Bd.named
  have hnm := (name_of_methodNamed Bd.named Bd.method).1
  have X0 : Stand p l e ({ frames := 0, cells := 0, slots := 0, locals := 0 } : Room) s m #[(.int x0), (.int x1)] below meth c s₁ [] 0 0 := Stand.of_body Bd
  have e0 : s₁.heap = h0 := by rw [← hh, Bd.state]; rfl
  have N0 := Fr.nil n0
  show own_G p e below s (Q_rmMax Z x0 x1 h0 n0) ({ frames := 0, cells := 0, slots := 0, locals := 0 } : Room).cells ({ frames := 0, cells := 0, slots := 0, locals := 0 } : Room).slots (s₁.setTop (entryFrame m #[(.int x0), (.int x1)] 2))
  rw [ef_rmMax m x0 x1]
  show own_G p e below s _ _ _ (s₁.setTop (mkF m 0 #[.val (.int x0), .val (.int x1)] []))
  refine own_go (fun _ kk_ => XS.iloadN X0.here hx rfl (hb hby d2_0) rfl kk_) ?_
  show own_G p e below s _ _ _ (s₁.setTop (mkF m 1 #[.val (.int x0), .val (.int x1)] [(.int x0)]))
  refine own_go (fun _ kk_ => XS.iloadN X0.here hx rfl (hb hby d2_1) rfl kk_) ?_
  show own_G p e below s _ _ _ (s₁.setTop (mkF m 2 #[.val (.int x0), .val (.int x1)] [(.int x1), (.int x0)]))
  refine own_ic_lt X0 hx (pc := 2) (pc' := 9) (hb hby d2_2) (by decide) (by decide) (fun hc2 => ?_) (fun hc2 => ?_)
  · show own_G p e below s _ _ _ (s₁.setTop (mkF m 9 #[.val (.int x0), .val (.int x1)] []))
    refine own_go (fun _ kk_ => XS.iloadN X0.here hx rfl (hb hby d2_9) rfl kk_) ?_
    show own_G p e below s _ _ _ (s₁.setTop (mkF m 10 #[.val (.int x0), .val (.int x1)] [(.int x1)]))
    exact own_retI X0 hx Bd.returns (BodyLoose.notSynchronized Bd) (hb hby d2_10) e0 ⟨by simp [own_max, hc2], N0, rfl⟩ (by decide) (by decide)
  · show own_G p e below s _ _ _ (s₁.setTop (mkF m 5 #[.val (.int x0), .val (.int x1)] []))
    refine own_go (fun _ kk_ => XS.iloadN X0.here hx rfl (hb hby d2_5) rfl kk_) ?_
    show own_G p e below s _ _ _ (s₁.setTop (mkF m 6 #[.val (.int x0), .val (.int x1)] [(.int x0)]))
    refine own_go (fun _ kk_ => XS.goto X0.here hx rfl (pc0 := 6) (pc' := 10) rfl (hb hby d2_6) (by decide) (by decide) kk_) ?_
    show own_G p e below s _ _ _ (s₁.setTop (mkF m 10 #[.val (.int x0), .val (.int x1)] [(.int x0)]))
    exact own_retI X0 hx Bd.returns (BodyLoose.notSynchronized Bd) (hb hby d2_10) e0 ⟨by simp [own_max, hc2], N0, rfl⟩ (by decide) (by decide)
theorem d6_0 : decode method_2_code 0 = .ok (.dload_n 0, 1) := by decide +kernel
theorem d6_1 : decode method_2_code 1 = .ok (.dload_n 2, 1) := by decide +kernel
theorem d6_2 : decode method_2_code 2 = .ok (.dcmp .g, 1) := by decide +kernel
theorem d6_3 : decode method_2_code 3 = .ok (.ifCond .ge 5, 3) := by decide +kernel
theorem d6_6 : decode method_2_code 6 = .ok (.dload_n 2, 1) := by decide +kernel
theorem d6_7 : decode method_2_code 7 = .ok (.dreturn, 1) := by decide +kernel
theorem d6_8 : decode method_2_code 8 = .ok (.dload 4, 2) := by decide +kernel
theorem d6_10 : decode method_2_code 10 = .ok (.dload_n 0, 1) := by decide +kernel
theorem d6_11 : decode method_2_code 11 = .ok (.dcmp .g, 1) := by decide +kernel
theorem d6_12 : decode method_2_code 12 = .ok (.ifCond .ge 6, 3) := by decide +kernel
theorem d6_15 : decode method_2_code 15 = .ok (.dload 4, 2) := by decide +kernel
theorem d6_17 : decode method_2_code 17 = .ok (.dreturn, 1) := by decide +kernel
theorem d6_18 : decode method_2_code 18 = .ok (.dload_n 0, 1) := by decide +kernel
theorem d6_19 : decode method_2_code 19 = .ok (.dreturn, 1) := by decide +kernel
theorem pn_0 : plainName "com/example/sixteenfold/sixteenfold/resizing/RowResizerClampPinLaw" = true := by first | (simp [plainName, overriddenIn]; done) | decide +kernel
theorem ef_rmRef (m : MethodId) (x0 : UInt64) (x1 : UInt64) (x2 : UInt64) : entryFrame m #[(.double x0), (.double x1), (.double x2)] 6 = mkF m 0 #[.val (.double x0), .second, .val (.double x1), .second, .val (.double x2), .second] [] := by first | (simp [entryFrame, mkF, argsToLocals, Value.category]; done) | rfl
def Q_rmRef (Z : State) (x0 x1 x2 : UInt64) (h0 : Heap) (n0 : Nat) : Option Value → Heap → List Loc → Prop := fun v h L => v = some (.double (own_rf x0 x1 x2)) ∧ Fr n0 L ∧ h = h0
set_option maxRecDepth 65536 in
set_option maxHeartbeats 40000000 in
theorem rmRef (l : Launch) (Z : State) (a0 : Array Value) (hw : ∀ d ∈ tables_1, d.before a0 Z = true) (ws : List Jvm.Cond) (x0 x1 x2 : UInt64) (h0 : Heap) (n0 : Nat) (Z0 : n0 ≤ h0.size)  :
    MetFree l (⟨"com/example/sixteenfold/sixteenfold/resizing/RowResizerClampPinLaw", "ref", "(DDD)D"⟩ : MethodName) (head1 (Jvm.Cond.code (⟨"com/example/sixteenfold/sixteenfold/resizing/RowResizerClampPinLaw", "ref", "(DDD)D"⟩ : MethodName) method_2_code 6 (some .double) :: ws) ({ frames := 0, cells := 0, slots := 0, locals := 0 } : Room)) (fun as_ U => as_ = #[(.double x0), (.double x1), (.double x2)] ∧ Z.Warmed39 U.vm ∧ U.heap = h0) (fun _ _ _ _ _ => True) (fun _ U o U' => ∃ v L, o = .returned v ∧ (Q_rmRef Z x0 x1 x2 h0 n0) v U'.heap L ∧ FrameEnd U o U' L ({ frames := 0, cells := 0, slots := 0, locals := 0 } : Room).cells ({ frames := 0, cells := 0, slots := 0, locals := 0 } : Room).slots) := by
  refine MetFree.of_bodySF (plainFor_of_name pn_0) hisR ?_
  intro p e s m args below meth c s₁ Bd hml0 hP hK
  obtain ⟨rfl, hZ, hh⟩ := hP
  have hx := Bd.exec
  have hby := Bd.bytes
  have hml : c.maxLocals = 6 := hml0
  have hown : s.vm.findClass "com/example/sixteenfold/sixteenfold/resizing/RowResizerClampPinLaw" = some m.cls := findClass_of_methodNamed Bd.named
  have hnm := (name_of_methodNamed Bd.named Bd.method).1
  have X0 : Stand p l e ({ frames := 0, cells := 0, slots := 0, locals := 0 } : Room) s m #[(.double x0), (.double x1), (.double x2)] below meth c s₁ [] 0 0 := Stand.of_body Bd
  have e0 : s₁.heap = h0 := by rw [← hh, Bd.state]; rfl
  have N0 := Fr.nil n0
  show own_G p e below s (Q_rmRef Z x0 x1 x2 h0 n0) ({ frames := 0, cells := 0, slots := 0, locals := 0 } : Room).cells ({ frames := 0, cells := 0, slots := 0, locals := 0 } : Room).slots (s₁.setTop (entryFrame m #[(.double x0), (.double x1), (.double x2)] 6))
  rw [ef_rmRef m x0 x1 x2]
  show own_G p e below s _ _ _ (s₁.setTop (mkF m 0 #[.val (.double x0), .second, .val (.double x1), .second, .val (.double x2), .second] []))
  refine own_go (fun _ kk_ => XS.dloadN X0.here hx rfl (hb hby d6_0) rfl kk_) ?_
  show own_G p e below s _ _ _ (s₁.setTop (mkF m 1 #[.val (.double x0), .second, .val (.double x1), .second, .val (.double x2), .second] [(.double x0)]))
  refine own_go (fun _ kk_ => XS.dloadN X0.here hx rfl (hb hby d6_1) rfl kk_) ?_
  show own_G p e below s _ _ _ (s₁.setTop (mkF m 2 #[.val (.double x0), .second, .val (.double x1), .second, .val (.double x2), .second] [(.double x1), (.double x0)]))
  refine own_go (fun _ kk_ => XS.dcmpS X0.here hx rfl (hb hby d6_2) rfl rfl kk_) ?_
  show own_G p e below s _ _ _ (s₁.setTop (mkF m 3 #[.val (.double x0), .second, .val (.double x1), .second, .val (.double x2), .second] [(.int (cmpValue (FP.dcmp x0 x1) .g))]))
  refine own_if_ge X0 hx (pc := 3) (pc' := 8) (hb hby d6_3) (by decide) (by decide) (fun hc3 => ?_) (fun hc3 => ?_)
  · show own_G p e below s _ _ _ (s₁.setTop (mkF m 8 #[.val (.double x0), .second, .val (.double x1), .second, .val (.double x2), .second] []))
    refine own_go (fun _ kk_ => XS.dload X0.here hx rfl (hb hby d6_8) rfl kk_) ?_
    show own_G p e below s _ _ _ (s₁.setTop (mkF m 10 #[.val (.double x0), .second, .val (.double x1), .second, .val (.double x2), .second] [(.double x2)]))
    refine own_go (fun _ kk_ => XS.dloadN X0.here hx rfl (hb hby d6_10) rfl kk_) ?_
    show own_G p e below s _ _ _ (s₁.setTop (mkF m 11 #[.val (.double x0), .second, .val (.double x1), .second, .val (.double x2), .second] [(.double x0), (.double x2)]))
    refine own_go (fun _ kk_ => XS.dcmpS X0.here hx rfl (hb hby d6_11) rfl rfl kk_) ?_
    show own_G p e below s _ _ _ (s₁.setTop (mkF m 12 #[.val (.double x0), .second, .val (.double x1), .second, .val (.double x2), .second] [(.int (cmpValue (FP.dcmp x2 x0) .g))]))
    refine own_if_ge X0 hx (pc := 12) (pc' := 18) (hb hby d6_12) (by decide) (by decide) (fun hc12 => ?_) (fun hc12 => ?_)
    · show own_G p e below s _ _ _ (s₁.setTop (mkF m 18 #[.val (.double x0), .second, .val (.double x1), .second, .val (.double x2), .second] []))
      refine own_go (fun _ kk_ => XS.dloadN X0.here hx rfl (hb hby d6_18) rfl kk_) ?_
      show own_G p e below s _ _ _ (s₁.setTop (mkF m 19 #[.val (.double x0), .second, .val (.double x1), .second, .val (.double x2), .second] [(.double x0)]))
      exact own_retD X0 hx Bd.returns (BodyLoose.notSynchronized Bd) (hb hby d6_19) e0 ⟨by rw [own_rf, if_neg hc3, if_neg hc12], N0, rfl⟩ (by decide) (by decide)
    · show own_G p e below s _ _ _ (s₁.setTop (mkF m 15 #[.val (.double x0), .second, .val (.double x1), .second, .val (.double x2), .second] []))
      refine own_go (fun _ kk_ => XS.dload X0.here hx rfl (hb hby d6_15) rfl kk_) ?_
      show own_G p e below s _ _ _ (s₁.setTop (mkF m 17 #[.val (.double x0), .second, .val (.double x1), .second, .val (.double x2), .second] [(.double x2)]))
      exact own_retD X0 hx Bd.returns (BodyLoose.notSynchronized Bd) (hb hby d6_17) e0 ⟨by rw [own_rf, if_neg hc3, if_pos hc12], N0, rfl⟩ (by decide) (by decide)
  · show own_G p e below s _ _ _ (s₁.setTop (mkF m 6 #[.val (.double x0), .second, .val (.double x1), .second, .val (.double x2), .second] []))
    refine own_go (fun _ kk_ => XS.dloadN X0.here hx rfl (hb hby d6_6) rfl kk_) ?_
    show own_G p e below s _ _ _ (s₁.setTop (mkF m 7 #[.val (.double x0), .second, .val (.double x1), .second, .val (.double x2), .second] [(.double x1)]))
    exact own_retD X0 hx Bd.returns (BodyLoose.notSynchronized Bd) (hb hby d6_7) e0 ⟨by rw [own_rf, if_pos hc3], N0, rfl⟩ (by decide) (by decide)
theorem d3_0 : decode prog_37_method_1_code 0 = .ok (.iconst 0, 1) := by decide +kernel
theorem d3_1 : decode prog_37_method_1_code 1 = .ok (.istore 5, 2) := by decide +kernel
theorem d3_3 : decode prog_37_method_1_code 3 = .ok (.iload 5, 2) := by decide +kernel
theorem d3_5 : decode prog_37_method_1_code 5 = .ok (.aload_n 0, 1) := by decide +kernel
theorem d3_6 : decode prog_37_method_1_code 6 = .ok (.arraylength, 1) := by decide +kernel
theorem d3_7 : decode prog_37_method_1_code 7 = .ok (.if_icmp .ge 25, 3) := by decide +kernel
theorem d3_10 : decode prog_37_method_1_code 10 = .ok (.aload_n 0, 1) := by decide +kernel
theorem d3_11 : decode prog_37_method_1_code 11 = .ok (.iload 5, 2) := by decide +kernel
theorem d3_13 : decode prog_37_method_1_code 13 = .ok (.aload_n 0, 1) := by decide +kernel
theorem d3_14 : decode prog_37_method_1_code 14 = .ok (.iload 5, 2) := by decide +kernel
theorem d3_16 : decode prog_37_method_1_code 16 = .ok (.daload, 1) := by decide +kernel
theorem d3_17 : decode prog_37_method_1_code 17 = .ok (.dload_n 1, 1) := by decide +kernel
theorem d3_18 : decode prog_37_method_1_code 18 = .ok (.invokestatic 1, 3) := by decide +kernel
theorem d3_21 : decode prog_37_method_1_code 21 = .ok (.dload_n 3, 1) := by decide +kernel
theorem d3_22 : decode prog_37_method_1_code 22 = .ok (.invokestatic 7, 3) := by decide +kernel
theorem d3_25 : decode prog_37_method_1_code 25 = .ok (.dastore, 1) := by decide +kernel
theorem d3_26 : decode prog_37_method_1_code 26 = .ok (.iinc 5 1, 3) := by decide +kernel
theorem d3_29 : decode prog_37_method_1_code 29 = .ok (.goto (-26), 3) := by decide +kernel
theorem d3_32 : decode prog_37_method_1_code 32 = .ok (.return_, 1) := by decide +kernel
theorem pn_1 : plainName "com/example/sixteenfold/sixteenfold/resizing/RowResizer" = true := by first | (simp [plainName, overriddenIn]; done) | decide +kernel
theorem pd_0 : parseMethodDescriptor "(DD)D" = some ⟨[.double, .double], some .double⟩ := by decide +kernel
theorem ef_rmC (m : MethodId) (x0 : Addr) (x1 : UInt64) (x2 : UInt64) : entryFrame m #[(.ref x0), (.double x1), (.double x2)] 6 = mkF m 0 #[.val (.ref x0), .val (.double x1), .second, .val (.double x2), .second, .unset] [] := by first | (simp [entryFrame, mkF, argsToLocals, Value.category]; done) | rfl
def Q_rmC (Z : State) (a : Addr) (ka : ClassId) (v0 v1 v2 x1 x2 : UInt64) (h0 : Heap) (n0 : Nat) : Option Value → Heap → List Loc → Prop := fun v h L => v = none ∧ Fr n0 L ∧ n0 ≤ h.size ∧ Arv Z h a ka .double 3 [.double (own_cl v0 x1 x2), .double (own_cl v1 x1 x2), .double (own_cl v2 x1 x2)] (.double (0 : UInt64))
set_option maxRecDepth 65536 in
set_option maxHeartbeats 40000000 in
theorem rmC (l : Launch) (Z : State) (a0 : Array Value) (hw : ∀ d ∈ tables_1, d.before a0 Z = true) (ws : List Jvm.Cond) (a : Addr) (ka : ClassId) (v0 v1 v2 x1 x2 : UInt64) (h0 : Heap) (n0 : Nat) (Z0 : n0 ≤ h0.size) (V_a : Arv Z h0 a ka .double 3 [.double v0, .double v1, .double v2] (.double (0 : UInt64))) (g_a : n0 ≤ a) (nq0 : own_N v0) (nq1 : own_N v1) (nq2 : own_N v2) (ql : own_N x1) (qh : own_N x2) :
    MetFree l (⟨"com/example/sixteenfold/sixteenfold/resizing/RowResizer", "clamp", "([DDD)V"⟩ : MethodName) (head1 (Jvm.Cond.code (⟨"com/example/sixteenfold/sixteenfold/resizing/RowResizer", "clamp", "([DDD)V"⟩ : MethodName) prog_37_method_1_code 6 none :: ws) ({ frames := 1, cells := 0, slots := 0, locals := 17 } : Room)) (fun as_ U => as_ = #[(.ref a), (.double x1), (.double x2)] ∧ Z.Warmed39 U.vm ∧ U.heap = h0) (fun _ _ _ _ _ => True) (fun _ U o U' => ∃ v L, o = .returned v ∧ (Q_rmC Z a ka v0 v1 v2 x1 x2 h0 n0) v U'.heap L ∧ FrameEnd U o U' L ({ frames := 1, cells := 0, slots := 0, locals := 17 } : Room).cells ({ frames := 1, cells := 0, slots := 0, locals := 17 } : Room).slots) := by
  refine MetFree.of_bodySF (plainFor_of_name pn_1) hisR ?_
  intro p e s m args below meth c s₁ Bd hml0 hP hK
  obtain ⟨rfl, hZ, hh⟩ := hP
  have hx := Bd.exec
  have hby := Bd.bytes
  have hml : c.maxLocals = 6 := hml0
  have hown : s.vm.findClass "com/example/sixteenfold/sixteenfold/resizing/RowResizer" = some m.cls := findClass_of_methodNamed Bd.named
  have hnm := (name_of_methodNamed Bd.named Bd.method).1
  have X0 : Stand p l e ({ frames := 1, cells := 0, slots := 0, locals := 17 } : Room) s m #[(.ref a), (.double x1), (.double x2)] below meth c s₁ [] 0 0 := Stand.of_body Bd
  have e0 : s₁.heap = h0 := by rw [← hh, Bd.state]; rfl
  have N0 := Fr.nil n0
  show own_G p e below s (Q_rmC Z a ka v0 v1 v2 x1 x2 h0 n0) ({ frames := 1, cells := 0, slots := 0, locals := 17 } : Room).cells ({ frames := 1, cells := 0, slots := 0, locals := 17 } : Room).slots (s₁.setTop (entryFrame m #[(.ref a), (.double x1), (.double x2)] 6))
  rw [ef_rmC m a x1 x2]
  show own_G p e below s _ _ _ (s₁.setTop (mkF m 0 #[.val (.ref a), .val (.double x1), .second, .val (.double x2), .second, .unset] []))
  refine own_go (fun _ kk_ => XS.iconst X0.here hx rfl (hb hby d3_0) kk_) ?_
  show own_G p e below s _ _ _ (s₁.setTop (mkF m 1 #[.val (.ref a), .val (.double x1), .second, .val (.double x2), .second, .unset] [(.int (0 : Int32))]))
  refine own_go (fun _ kk_ => XS.istore X0.here hx rfl (hb hby d3_1) rfl (l' := #[.val (.ref a), .val (.double x1), .second, .val (.double x2), .second, .val (.int (0 : Int32))]) rfl kk_) ?_
  show own_G p e below s _ _ _ (s₁.setTop (mkF m 3 #[.val (.ref a), .val (.double x1), .second, .val (.double x2), .second, .val (.int (0 : Int32))] []))
  refine own_go (fun _ kk_ => XS.iload X0.here hx rfl (hb hby d3_3) rfl kk_) ?_
  show own_G p e below s _ _ _ (s₁.setTop (mkF m 5 #[.val (.ref a), .val (.double x1), .second, .val (.double x2), .second, .val (.int (0 : Int32))] [(.int (0 : Int32))]))
  refine own_go (fun _ kk_ => XS.aloadN X0.here hx rfl (hb hby d3_5) rfl rfl kk_) ?_
  show own_G p e below s _ _ _ (s₁.setTop (mkF m 6 #[.val (.ref a), .val (.double x1), .second, .val (.double x2), .second, .val (.int (0 : Int32))] [(.ref a), (.int (0 : Int32))]))
  have Vc1 := V_a
  obtain ⟨cl1, Ar1, q1, S1, M1, H1, G1⟩ := Vc1
  refine own_go (X0.arraylength hx (cell := cl1) (by rw [e0]; exact Ar1.1) (State.isArrayOf_alike hZ.alike Ar1.2.1) (g := (mkF m 6 #[.val (.ref a), .val (.double x1), .second, .val (.double x2), .second, .val (.int (0 : Int32))] [(.ref a), (.int (0 : Int32))])) rfl (rest := [(.int (0 : Int32))]) rfl (hb hby d3_6)) ?_
  rw [len_of S1 M1]
  show own_G p e below s _ _ _ (s₁.setTop (mkF m 7 #[.val (.ref a), .val (.double x1), .second, .val (.double x2), .second, .val (.int (0 : Int32))] [(.int (3 : Int32)), (.int (0 : Int32))]))
  refine own_ic_geN X0 hx (pc := 7) (hb hby d3_7) (by decide) ?_
  show own_G p e below s _ _ _ (s₁.setTop (mkF m 10 #[.val (.ref a), .val (.double x1), .second, .val (.double x2), .second, .val (.int (0 : Int32))] []))
  refine own_go (fun _ kk_ => XS.aloadN X0.here hx rfl (hb hby d3_10) rfl rfl kk_) ?_
  show own_G p e below s _ _ _ (s₁.setTop (mkF m 11 #[.val (.ref a), .val (.double x1), .second, .val (.double x2), .second, .val (.int (0 : Int32))] [(.ref a)]))
  refine own_go (fun _ kk_ => XS.iload X0.here hx rfl (hb hby d3_11) rfl kk_) ?_
  show own_G p e below s _ _ _ (s₁.setTop (mkF m 13 #[.val (.ref a), .val (.double x1), .second, .val (.double x2), .second, .val (.int (0 : Int32))] [(.int (0 : Int32)), (.ref a)]))
  refine own_go (fun _ kk_ => XS.aloadN X0.here hx rfl (hb hby d3_13) rfl rfl kk_) ?_
  show own_G p e below s _ _ _ (s₁.setTop (mkF m 14 #[.val (.ref a), .val (.double x1), .second, .val (.double x2), .second, .val (.int (0 : Int32))] [(.ref a), (.int (0 : Int32)), (.ref a)]))
  refine own_go (fun _ kk_ => XS.iload X0.here hx rfl (hb hby d3_14) rfl kk_) ?_
  show own_G p e below s _ _ _ (s₁.setTop (mkF m 16 #[.val (.ref a), .val (.double x1), .second, .val (.double x2), .second, .val (.int (0 : Int32))] [(.int (0 : Int32)), (.ref a), (.int (0 : Int32)), (.ref a)]))
  have Vc2 := V_a
  obtain ⟨cl2, Ar2, q2, S2, M2, H2, G2⟩ := Vc2
  have hin2 := inb_of (j := (0 : Int32)) S2 ⟨(by decide), (by decide)⟩
  have hat2 := H2.at hin2 (v := (.double v0)) rfl
  refine own_go (X0.daload hx (j := (0 : Int32)) (v := (.double v0)) (by rw [e0]; exact Ar2.1) (State.isArrayOf_alike hZ.alike Ar2.2.1) Ar2.2.2 hin2 hat2 (g := (mkF m 16 #[.val (.ref a), .val (.double x1), .second, .val (.double x2), .second, .val (.int (0 : Int32))] [(.int (0 : Int32)), (.ref a), (.int (0 : Int32)), (.ref a)])) rfl rfl (hb hby d3_16)) ?_
  show own_G p e below s _ _ _ (s₁.setTop (mkF m 17 #[.val (.ref a), .val (.double x1), .second, .val (.double x2), .second, .val (.int (0 : Int32))] [(.double v0), (.int (0 : Int32)), (.ref a)]))
  refine own_go (fun _ kk_ => XS.dloadN X0.here hx rfl (hb hby d3_17) rfl kk_) ?_
  show own_G p e below s _ _ _ (s₁.setTop (mkF m 18 #[.val (.ref a), .val (.double x1), .second, .val (.double x2), .second, .val (.int (0 : Int32))] [(.double x1), (.double v0), (.int (0 : Int32)), (.ref a)]))
  obtain ⟨T3, X3, e3, st3⟩ := natS X0 hx hZ (y := (⟨"java/lang/Math", "max", "(DD)D"⟩ : MethodName)) hown (hw _ (List.mem_of_getElem? (i := 14) rfl)) (hw _ (List.mem_of_getElem? (i := 15) rfl)) (hw _ (List.mem_of_getElem? (i := 2) rfl)) (hw _ (List.mem_of_getElem? (i := 16) rfl)) (by decide) e0 (W := 2) (F := fun a' => a' = #[.double v0, .double x1] ∧ Jvm.Free.Fl.NoNaN64 v0 ∧ Jvm.Free.Fl.NoNaN64 x1) (val := .double (own_pk true v0 x1)) (fun hc => Jvm.Free.Fl.Abs.maxD_pays v0 x1 hc (by decide) (by decide)) (g := (mkF m 18 #[.val (.ref a), .val (.double x1), .second, .val (.double x2), .second, .val (.int (0 : Int32))] [(.double x1), (.double v0), (.int (0 : Int32)), (.ref a)])) rfl (by rw [hml]; rfl) (argsL := [.double v0, .double x1]) (rest := [(.int (0 : Int32)), (.ref a)]) (lenOf pd_0 rfl) rfl (by show 2 * 0 + _ ≤ _; exact Nat.le_of_eq rfl) (hb hby d3_18) (by decide) (by decide) ⟨rfl, Jvm.Free.Fl.val64_no.mpr nq0, Jvm.Free.Fl.val64_no.mpr ql⟩ rfl
  refine own_go st3 ?_
  show own_G p e below s _ _ _ (T3.setTop (mkF m 21 #[.val (.ref a), .val (.double x1), .second, .val (.double x2), .second, .val (.int (0 : Int32))] [(.double (own_pk true v0 x1)), (.int (0 : Int32)), (.ref a)]))
  refine own_go (fun _ kk_ => XS.dloadN X3.here hx rfl (hb hby d3_21) rfl kk_) ?_
  show own_G p e below s _ _ _ (T3.setTop (mkF m 22 #[.val (.ref a), .val (.double x1), .second, .val (.double x2), .second, .val (.int (0 : Int32))] [(.double x2), (.double (own_pk true v0 x1)), (.int (0 : Int32)), (.ref a)]))
  obtain ⟨T4, X4, e4, st4⟩ := natS X3 hx hZ (y := (⟨"java/lang/Math", "min", "(DD)D"⟩ : MethodName)) hown (hw _ (List.mem_of_getElem? (i := 17) rfl)) (hw _ (List.mem_of_getElem? (i := 18) rfl)) (hw _ (List.mem_of_getElem? (i := 2) rfl)) (hw _ (List.mem_of_getElem? (i := 19) rfl)) (by decide) e3 (W := 2) (F := fun a' => a' = #[.double (own_pk true v0 x1), .double x2] ∧ Jvm.Free.Fl.NoNaN64 (own_pk true v0 x1) ∧ Jvm.Free.Fl.NoNaN64 x2) (val := .double (own_pk false (own_pk true v0 x1) x2)) (fun hc => Jvm.Free.Fl.Abs.minD_pays (own_pk true v0 x1) x2 hc (by decide) (by decide)) (g := (mkF m 22 #[.val (.ref a), .val (.double x1), .second, .val (.double x2), .second, .val (.int (0 : Int32))] [(.double x2), (.double (own_pk true v0 x1)), (.int (0 : Int32)), (.ref a)])) rfl (by rw [hml]; rfl) (argsL := [.double (own_pk true v0 x1), .double x2]) (rest := [(.int (0 : Int32)), (.ref a)]) (lenOf pd_0 rfl) rfl (by show 2 * 0 + _ ≤ _; exact Nat.le_of_eq rfl) (hb hby d3_22) (by decide) (by decide) ⟨rfl, Jvm.Free.Fl.val64_no.mpr (own_pkt nq0 ql).1, Jvm.Free.Fl.val64_no.mpr qh⟩ rfl
  refine own_go st4 ?_
  show own_G p e below s _ _ _ (T4.setTop (mkF m 25 #[.val (.ref a), .val (.double x1), .second, .val (.double x2), .second, .val (.int (0 : Int32))] [(.double (own_pk false (own_pk true v0 x1) x2)), (.int (0 : Int32)), (.ref a)]))
  have Vc5 := V_a
  obtain ⟨cl5, Ar5, q5, S5, M5, H5, G5⟩ := Vc5
  have hin5 := inb_of (j := (0 : Int32)) S5 ⟨(by decide), (by decide)⟩
  obtain ⟨T6, h6, X6, e6, W6, st6⟩ := stD X4 hx hZ e4 Ar5 (j := (0 : Int32)) hin5 (g := (mkF m 25 #[.val (.ref a), .val (.double x1), .second, .val (.double x2), .second, .val (.int (0 : Int32))] [(.double (own_pk false (own_pk true v0 x1) x2)), (.int (0 : Int32)), (.ref a)])) rfl rfl (hb hby d3_25)
  refine own_go st6 ?_
  have V6_a : Arv Z h6 a ka .double (3 : Int32) [(.double (own_pk false (own_pk true v0 x1) x2)), (.double v1), (.double v2)] (.double (0 : UInt64)) := Arv.set Ar5 q5 S5 M5 H5 G5 rfl W6 0 rfl (Nat.le_of_ble_eq_true rfl)
  have Z6 : n0 ≤ h6.size := by rw [W6.size]; exact Z0
  have N6 := Fr.snoc X6 N0 g_a
  show own_G p e below s _ _ _ (T6.setTop (mkF m 26 #[.val (.ref a), .val (.double x1), .second, .val (.double x2), .second, .val (.int (0 : Int32))] []))
  refine own_go (fun _ kk_ => XS.iinc X6.here hx rfl (hb hby d3_26) rfl (l' := #[.val (.ref a), .val (.double x1), .second, .val (.double x2), .second, .val (.int (1 : Int32))]) rfl kk_) ?_
  show own_G p e below s _ _ _ (T6.setTop (mkF m 29 #[.val (.ref a), .val (.double x1), .second, .val (.double x2), .second, .val (.int (1 : Int32))] []))
  refine own_go (fun _ kk_ => XS.goto X6.here hx rfl (pc0 := 29) (pc' := 3) rfl (hb hby d3_29) (by decide) (by decide) kk_) ?_
  show own_G p e below s _ _ _ (T6.setTop (mkF m 3 #[.val (.ref a), .val (.double x1), .second, .val (.double x2), .second, .val (.int (1 : Int32))] []))
  refine own_go (fun _ kk_ => XS.iload X6.here hx rfl (hb hby d3_3) rfl kk_) ?_
  show own_G p e below s _ _ _ (T6.setTop (mkF m 5 #[.val (.ref a), .val (.double x1), .second, .val (.double x2), .second, .val (.int (1 : Int32))] [(.int (1 : Int32))]))
  refine own_go (fun _ kk_ => XS.aloadN X6.here hx rfl (hb hby d3_5) rfl rfl kk_) ?_
  show own_G p e below s _ _ _ (T6.setTop (mkF m 6 #[.val (.ref a), .val (.double x1), .second, .val (.double x2), .second, .val (.int (1 : Int32))] [(.ref a), (.int (1 : Int32))]))
  have Vc7 := V6_a
  obtain ⟨cl7, Ar7, q7, S7, M7, H7, G7⟩ := Vc7
  refine own_go (X6.arraylength hx (cell := cl7) (by rw [e6]; exact Ar7.1) (State.isArrayOf_alike hZ.alike Ar7.2.1) (g := (mkF m 6 #[.val (.ref a), .val (.double x1), .second, .val (.double x2), .second, .val (.int (1 : Int32))] [(.ref a), (.int (1 : Int32))])) rfl (rest := [(.int (1 : Int32))]) rfl (hb hby d3_6)) ?_
  rw [len_of S7 M7]
  show own_G p e below s _ _ _ (T6.setTop (mkF m 7 #[.val (.ref a), .val (.double x1), .second, .val (.double x2), .second, .val (.int (1 : Int32))] [(.int (3 : Int32)), (.int (1 : Int32))]))
  refine own_ic_geN X6 hx (pc := 7) (hb hby d3_7) (by decide) ?_
  show own_G p e below s _ _ _ (T6.setTop (mkF m 10 #[.val (.ref a), .val (.double x1), .second, .val (.double x2), .second, .val (.int (1 : Int32))] []))
  refine own_go (fun _ kk_ => XS.aloadN X6.here hx rfl (hb hby d3_10) rfl rfl kk_) ?_
  show own_G p e below s _ _ _ (T6.setTop (mkF m 11 #[.val (.ref a), .val (.double x1), .second, .val (.double x2), .second, .val (.int (1 : Int32))] [(.ref a)]))
  refine own_go (fun _ kk_ => XS.iload X6.here hx rfl (hb hby d3_11) rfl kk_) ?_
  show own_G p e below s _ _ _ (T6.setTop (mkF m 13 #[.val (.ref a), .val (.double x1), .second, .val (.double x2), .second, .val (.int (1 : Int32))] [(.int (1 : Int32)), (.ref a)]))
  refine own_go (fun _ kk_ => XS.aloadN X6.here hx rfl (hb hby d3_13) rfl rfl kk_) ?_
  show own_G p e below s _ _ _ (T6.setTop (mkF m 14 #[.val (.ref a), .val (.double x1), .second, .val (.double x2), .second, .val (.int (1 : Int32))] [(.ref a), (.int (1 : Int32)), (.ref a)]))
  refine own_go (fun _ kk_ => XS.iload X6.here hx rfl (hb hby d3_14) rfl kk_) ?_
  show own_G p e below s _ _ _ (T6.setTop (mkF m 16 #[.val (.ref a), .val (.double x1), .second, .val (.double x2), .second, .val (.int (1 : Int32))] [(.int (1 : Int32)), (.ref a), (.int (1 : Int32)), (.ref a)]))
  have Vc8 := V6_a
  obtain ⟨cl8, Ar8, q8, S8, M8, H8, G8⟩ := Vc8
  have hin8 := inb_of (j := (1 : Int32)) S8 ⟨(by decide), (by decide)⟩
  have hat8 := H8.at hin8 (v := (.double v1)) rfl
  refine own_go (X6.daload hx (j := (1 : Int32)) (v := (.double v1)) (by rw [e6]; exact Ar8.1) (State.isArrayOf_alike hZ.alike Ar8.2.1) Ar8.2.2 hin8 hat8 (g := (mkF m 16 #[.val (.ref a), .val (.double x1), .second, .val (.double x2), .second, .val (.int (1 : Int32))] [(.int (1 : Int32)), (.ref a), (.int (1 : Int32)), (.ref a)])) rfl rfl (hb hby d3_16)) ?_
  show own_G p e below s _ _ _ (T6.setTop (mkF m 17 #[.val (.ref a), .val (.double x1), .second, .val (.double x2), .second, .val (.int (1 : Int32))] [(.double v1), (.int (1 : Int32)), (.ref a)]))
  refine own_go (fun _ kk_ => XS.dloadN X6.here hx rfl (hb hby d3_17) rfl kk_) ?_
  show own_G p e below s _ _ _ (T6.setTop (mkF m 18 #[.val (.ref a), .val (.double x1), .second, .val (.double x2), .second, .val (.int (1 : Int32))] [(.double x1), (.double v1), (.int (1 : Int32)), (.ref a)]))
  obtain ⟨T9, X9, e9, st9⟩ := natS X6 hx hZ (y := (⟨"java/lang/Math", "max", "(DD)D"⟩ : MethodName)) hown (hw _ (List.mem_of_getElem? (i := 14) rfl)) (hw _ (List.mem_of_getElem? (i := 15) rfl)) (hw _ (List.mem_of_getElem? (i := 2) rfl)) (hw _ (List.mem_of_getElem? (i := 16) rfl)) (by decide) e6 (W := 2) (F := fun a' => a' = #[.double v1, .double x1] ∧ Jvm.Free.Fl.NoNaN64 v1 ∧ Jvm.Free.Fl.NoNaN64 x1) (val := .double (own_pk true v1 x1)) (fun hc => Jvm.Free.Fl.Abs.maxD_pays v1 x1 hc (by decide) (by decide)) (g := (mkF m 18 #[.val (.ref a), .val (.double x1), .second, .val (.double x2), .second, .val (.int (1 : Int32))] [(.double x1), (.double v1), (.int (1 : Int32)), (.ref a)])) rfl (by rw [hml]; rfl) (argsL := [.double v1, .double x1]) (rest := [(.int (1 : Int32)), (.ref a)]) (lenOf pd_0 rfl) rfl (by show 2 * 0 + _ ≤ _; exact Nat.le_of_eq rfl) (hb hby d3_18) (by decide) (by decide) ⟨rfl, Jvm.Free.Fl.val64_no.mpr nq1, Jvm.Free.Fl.val64_no.mpr ql⟩ rfl
  refine own_go st9 ?_
  show own_G p e below s _ _ _ (T9.setTop (mkF m 21 #[.val (.ref a), .val (.double x1), .second, .val (.double x2), .second, .val (.int (1 : Int32))] [(.double (own_pk true v1 x1)), (.int (1 : Int32)), (.ref a)]))
  refine own_go (fun _ kk_ => XS.dloadN X9.here hx rfl (hb hby d3_21) rfl kk_) ?_
  show own_G p e below s _ _ _ (T9.setTop (mkF m 22 #[.val (.ref a), .val (.double x1), .second, .val (.double x2), .second, .val (.int (1 : Int32))] [(.double x2), (.double (own_pk true v1 x1)), (.int (1 : Int32)), (.ref a)]))
  obtain ⟨T10, X10, e10, st10⟩ := natS X9 hx hZ (y := (⟨"java/lang/Math", "min", "(DD)D"⟩ : MethodName)) hown (hw _ (List.mem_of_getElem? (i := 17) rfl)) (hw _ (List.mem_of_getElem? (i := 18) rfl)) (hw _ (List.mem_of_getElem? (i := 2) rfl)) (hw _ (List.mem_of_getElem? (i := 19) rfl)) (by decide) e9 (W := 2) (F := fun a' => a' = #[.double (own_pk true v1 x1), .double x2] ∧ Jvm.Free.Fl.NoNaN64 (own_pk true v1 x1) ∧ Jvm.Free.Fl.NoNaN64 x2) (val := .double (own_pk false (own_pk true v1 x1) x2)) (fun hc => Jvm.Free.Fl.Abs.minD_pays (own_pk true v1 x1) x2 hc (by decide) (by decide)) (g := (mkF m 22 #[.val (.ref a), .val (.double x1), .second, .val (.double x2), .second, .val (.int (1 : Int32))] [(.double x2), (.double (own_pk true v1 x1)), (.int (1 : Int32)), (.ref a)])) rfl (by rw [hml]; rfl) (argsL := [.double (own_pk true v1 x1), .double x2]) (rest := [(.int (1 : Int32)), (.ref a)]) (lenOf pd_0 rfl) rfl (by show 2 * 0 + _ ≤ _; exact Nat.le_of_eq rfl) (hb hby d3_22) (by decide) (by decide) ⟨rfl, Jvm.Free.Fl.val64_no.mpr (own_pkt nq1 ql).1, Jvm.Free.Fl.val64_no.mpr qh⟩ rfl
  refine own_go st10 ?_
  show own_G p e below s _ _ _ (T10.setTop (mkF m 25 #[.val (.ref a), .val (.double x1), .second, .val (.double x2), .second, .val (.int (1 : Int32))] [(.double (own_pk false (own_pk true v1 x1) x2)), (.int (1 : Int32)), (.ref a)]))
  have Vc11 := V6_a
  obtain ⟨cl11, Ar11, q11, S11, M11, H11, G11⟩ := Vc11
  have hin11 := inb_of (j := (1 : Int32)) S11 ⟨(by decide), (by decide)⟩
  obtain ⟨T12, h12, X12, e12, W12, st12⟩ := stD X10 hx hZ e10 Ar11 (j := (1 : Int32)) hin11 (g := (mkF m 25 #[.val (.ref a), .val (.double x1), .second, .val (.double x2), .second, .val (.int (1 : Int32))] [(.double (own_pk false (own_pk true v1 x1) x2)), (.int (1 : Int32)), (.ref a)])) rfl rfl (hb hby d3_25)
  refine own_go st12 ?_
  have V12_a : Arv Z h12 a ka .double (3 : Int32) [(.double (own_pk false (own_pk true v0 x1) x2)), (.double (own_pk false (own_pk true v1 x1) x2)), (.double v2)] (.double (0 : UInt64)) := Arv.set Ar11 q11 S11 M11 H11 G11 rfl W12 1 rfl (Nat.le_of_ble_eq_true rfl)
  have Z12 : n0 ≤ h12.size := by rw [W12.size]; exact Z6
  have N12 := Fr.snoc X12 N6 g_a
  show own_G p e below s _ _ _ (T12.setTop (mkF m 26 #[.val (.ref a), .val (.double x1), .second, .val (.double x2), .second, .val (.int (1 : Int32))] []))
  refine own_go (fun _ kk_ => XS.iinc X12.here hx rfl (hb hby d3_26) rfl (l' := #[.val (.ref a), .val (.double x1), .second, .val (.double x2), .second, .val (.int (2 : Int32))]) rfl kk_) ?_
  show own_G p e below s _ _ _ (T12.setTop (mkF m 29 #[.val (.ref a), .val (.double x1), .second, .val (.double x2), .second, .val (.int (2 : Int32))] []))
  refine own_go (fun _ kk_ => XS.goto X12.here hx rfl (pc0 := 29) (pc' := 3) rfl (hb hby d3_29) (by decide) (by decide) kk_) ?_
  show own_G p e below s _ _ _ (T12.setTop (mkF m 3 #[.val (.ref a), .val (.double x1), .second, .val (.double x2), .second, .val (.int (2 : Int32))] []))
  refine own_go (fun _ kk_ => XS.iload X12.here hx rfl (hb hby d3_3) rfl kk_) ?_
  show own_G p e below s _ _ _ (T12.setTop (mkF m 5 #[.val (.ref a), .val (.double x1), .second, .val (.double x2), .second, .val (.int (2 : Int32))] [(.int (2 : Int32))]))
  refine own_go (fun _ kk_ => XS.aloadN X12.here hx rfl (hb hby d3_5) rfl rfl kk_) ?_
  show own_G p e below s _ _ _ (T12.setTop (mkF m 6 #[.val (.ref a), .val (.double x1), .second, .val (.double x2), .second, .val (.int (2 : Int32))] [(.ref a), (.int (2 : Int32))]))
  have Vc13 := V12_a
  obtain ⟨cl13, Ar13, q13, S13, M13, H13, G13⟩ := Vc13
  refine own_go (X12.arraylength hx (cell := cl13) (by rw [e12]; exact Ar13.1) (State.isArrayOf_alike hZ.alike Ar13.2.1) (g := (mkF m 6 #[.val (.ref a), .val (.double x1), .second, .val (.double x2), .second, .val (.int (2 : Int32))] [(.ref a), (.int (2 : Int32))])) rfl (rest := [(.int (2 : Int32))]) rfl (hb hby d3_6)) ?_
  rw [len_of S13 M13]
  show own_G p e below s _ _ _ (T12.setTop (mkF m 7 #[.val (.ref a), .val (.double x1), .second, .val (.double x2), .second, .val (.int (2 : Int32))] [(.int (3 : Int32)), (.int (2 : Int32))]))
  refine own_ic_geN X12 hx (pc := 7) (hb hby d3_7) (by decide) ?_
  show own_G p e below s _ _ _ (T12.setTop (mkF m 10 #[.val (.ref a), .val (.double x1), .second, .val (.double x2), .second, .val (.int (2 : Int32))] []))
  refine own_go (fun _ kk_ => XS.aloadN X12.here hx rfl (hb hby d3_10) rfl rfl kk_) ?_
  show own_G p e below s _ _ _ (T12.setTop (mkF m 11 #[.val (.ref a), .val (.double x1), .second, .val (.double x2), .second, .val (.int (2 : Int32))] [(.ref a)]))
  refine own_go (fun _ kk_ => XS.iload X12.here hx rfl (hb hby d3_11) rfl kk_) ?_
  show own_G p e below s _ _ _ (T12.setTop (mkF m 13 #[.val (.ref a), .val (.double x1), .second, .val (.double x2), .second, .val (.int (2 : Int32))] [(.int (2 : Int32)), (.ref a)]))
  refine own_go (fun _ kk_ => XS.aloadN X12.here hx rfl (hb hby d3_13) rfl rfl kk_) ?_
  show own_G p e below s _ _ _ (T12.setTop (mkF m 14 #[.val (.ref a), .val (.double x1), .second, .val (.double x2), .second, .val (.int (2 : Int32))] [(.ref a), (.int (2 : Int32)), (.ref a)]))
  refine own_go (fun _ kk_ => XS.iload X12.here hx rfl (hb hby d3_14) rfl kk_) ?_
  show own_G p e below s _ _ _ (T12.setTop (mkF m 16 #[.val (.ref a), .val (.double x1), .second, .val (.double x2), .second, .val (.int (2 : Int32))] [(.int (2 : Int32)), (.ref a), (.int (2 : Int32)), (.ref a)]))
  have Vc14 := V12_a
  obtain ⟨cl14, Ar14, q14, S14, M14, H14, G14⟩ := Vc14
  have hin14 := inb_of (j := (2 : Int32)) S14 ⟨(by decide), (by decide)⟩
  have hat14 := H14.at hin14 (v := (.double v2)) rfl
  refine own_go (X12.daload hx (j := (2 : Int32)) (v := (.double v2)) (by rw [e12]; exact Ar14.1) (State.isArrayOf_alike hZ.alike Ar14.2.1) Ar14.2.2 hin14 hat14 (g := (mkF m 16 #[.val (.ref a), .val (.double x1), .second, .val (.double x2), .second, .val (.int (2 : Int32))] [(.int (2 : Int32)), (.ref a), (.int (2 : Int32)), (.ref a)])) rfl rfl (hb hby d3_16)) ?_
  show own_G p e below s _ _ _ (T12.setTop (mkF m 17 #[.val (.ref a), .val (.double x1), .second, .val (.double x2), .second, .val (.int (2 : Int32))] [(.double v2), (.int (2 : Int32)), (.ref a)]))
  refine own_go (fun _ kk_ => XS.dloadN X12.here hx rfl (hb hby d3_17) rfl kk_) ?_
  show own_G p e below s _ _ _ (T12.setTop (mkF m 18 #[.val (.ref a), .val (.double x1), .second, .val (.double x2), .second, .val (.int (2 : Int32))] [(.double x1), (.double v2), (.int (2 : Int32)), (.ref a)]))
  obtain ⟨T15, X15, e15, st15⟩ := natS X12 hx hZ (y := (⟨"java/lang/Math", "max", "(DD)D"⟩ : MethodName)) hown (hw _ (List.mem_of_getElem? (i := 14) rfl)) (hw _ (List.mem_of_getElem? (i := 15) rfl)) (hw _ (List.mem_of_getElem? (i := 2) rfl)) (hw _ (List.mem_of_getElem? (i := 16) rfl)) (by decide) e12 (W := 2) (F := fun a' => a' = #[.double v2, .double x1] ∧ Jvm.Free.Fl.NoNaN64 v2 ∧ Jvm.Free.Fl.NoNaN64 x1) (val := .double (own_pk true v2 x1)) (fun hc => Jvm.Free.Fl.Abs.maxD_pays v2 x1 hc (by decide) (by decide)) (g := (mkF m 18 #[.val (.ref a), .val (.double x1), .second, .val (.double x2), .second, .val (.int (2 : Int32))] [(.double x1), (.double v2), (.int (2 : Int32)), (.ref a)])) rfl (by rw [hml]; rfl) (argsL := [.double v2, .double x1]) (rest := [(.int (2 : Int32)), (.ref a)]) (lenOf pd_0 rfl) rfl (by show 2 * 0 + _ ≤ _; exact Nat.le_of_eq rfl) (hb hby d3_18) (by decide) (by decide) ⟨rfl, Jvm.Free.Fl.val64_no.mpr nq2, Jvm.Free.Fl.val64_no.mpr ql⟩ rfl
  refine own_go st15 ?_
  show own_G p e below s _ _ _ (T15.setTop (mkF m 21 #[.val (.ref a), .val (.double x1), .second, .val (.double x2), .second, .val (.int (2 : Int32))] [(.double (own_pk true v2 x1)), (.int (2 : Int32)), (.ref a)]))
  refine own_go (fun _ kk_ => XS.dloadN X15.here hx rfl (hb hby d3_21) rfl kk_) ?_
  show own_G p e below s _ _ _ (T15.setTop (mkF m 22 #[.val (.ref a), .val (.double x1), .second, .val (.double x2), .second, .val (.int (2 : Int32))] [(.double x2), (.double (own_pk true v2 x1)), (.int (2 : Int32)), (.ref a)]))
  obtain ⟨T16, X16, e16, st16⟩ := natS X15 hx hZ (y := (⟨"java/lang/Math", "min", "(DD)D"⟩ : MethodName)) hown (hw _ (List.mem_of_getElem? (i := 17) rfl)) (hw _ (List.mem_of_getElem? (i := 18) rfl)) (hw _ (List.mem_of_getElem? (i := 2) rfl)) (hw _ (List.mem_of_getElem? (i := 19) rfl)) (by decide) e15 (W := 2) (F := fun a' => a' = #[.double (own_pk true v2 x1), .double x2] ∧ Jvm.Free.Fl.NoNaN64 (own_pk true v2 x1) ∧ Jvm.Free.Fl.NoNaN64 x2) (val := .double (own_pk false (own_pk true v2 x1) x2)) (fun hc => Jvm.Free.Fl.Abs.minD_pays (own_pk true v2 x1) x2 hc (by decide) (by decide)) (g := (mkF m 22 #[.val (.ref a), .val (.double x1), .second, .val (.double x2), .second, .val (.int (2 : Int32))] [(.double x2), (.double (own_pk true v2 x1)), (.int (2 : Int32)), (.ref a)])) rfl (by rw [hml]; rfl) (argsL := [.double (own_pk true v2 x1), .double x2]) (rest := [(.int (2 : Int32)), (.ref a)]) (lenOf pd_0 rfl) rfl (by show 2 * 0 + _ ≤ _; exact Nat.le_of_eq rfl) (hb hby d3_22) (by decide) (by decide) ⟨rfl, Jvm.Free.Fl.val64_no.mpr (own_pkt nq2 ql).1, Jvm.Free.Fl.val64_no.mpr qh⟩ rfl
  refine own_go st16 ?_
  show own_G p e below s _ _ _ (T16.setTop (mkF m 25 #[.val (.ref a), .val (.double x1), .second, .val (.double x2), .second, .val (.int (2 : Int32))] [(.double (own_pk false (own_pk true v2 x1) x2)), (.int (2 : Int32)), (.ref a)]))
  have Vc17 := V12_a
  obtain ⟨cl17, Ar17, q17, S17, M17, H17, G17⟩ := Vc17
  have hin17 := inb_of (j := (2 : Int32)) S17 ⟨(by decide), (by decide)⟩
  obtain ⟨T18, h18, X18, e18, W18, st18⟩ := stD X16 hx hZ e16 Ar17 (j := (2 : Int32)) hin17 (g := (mkF m 25 #[.val (.ref a), .val (.double x1), .second, .val (.double x2), .second, .val (.int (2 : Int32))] [(.double (own_pk false (own_pk true v2 x1) x2)), (.int (2 : Int32)), (.ref a)])) rfl rfl (hb hby d3_25)
  refine own_go st18 ?_
  have V18_a : Arv Z h18 a ka .double (3 : Int32) [(.double (own_pk false (own_pk true v0 x1) x2)), (.double (own_pk false (own_pk true v1 x1) x2)), (.double (own_pk false (own_pk true v2 x1) x2))] (.double (0 : UInt64)) := Arv.set Ar17 q17 S17 M17 H17 G17 rfl W18 2 rfl (Nat.le_of_ble_eq_true rfl)
  have Z18 : n0 ≤ h18.size := by rw [W18.size]; exact Z12
  have N18 := Fr.snoc X18 N12 g_a
  show own_G p e below s _ _ _ (T18.setTop (mkF m 26 #[.val (.ref a), .val (.double x1), .second, .val (.double x2), .second, .val (.int (2 : Int32))] []))
  refine own_go (fun _ kk_ => XS.iinc X18.here hx rfl (hb hby d3_26) rfl (l' := #[.val (.ref a), .val (.double x1), .second, .val (.double x2), .second, .val (.int (3 : Int32))]) rfl kk_) ?_
  show own_G p e below s _ _ _ (T18.setTop (mkF m 29 #[.val (.ref a), .val (.double x1), .second, .val (.double x2), .second, .val (.int (3 : Int32))] []))
  refine own_go (fun _ kk_ => XS.goto X18.here hx rfl (pc0 := 29) (pc' := 3) rfl (hb hby d3_29) (by decide) (by decide) kk_) ?_
  show own_G p e below s _ _ _ (T18.setTop (mkF m 3 #[.val (.ref a), .val (.double x1), .second, .val (.double x2), .second, .val (.int (3 : Int32))] []))
  refine own_go (fun _ kk_ => XS.iload X18.here hx rfl (hb hby d3_3) rfl kk_) ?_
  show own_G p e below s _ _ _ (T18.setTop (mkF m 5 #[.val (.ref a), .val (.double x1), .second, .val (.double x2), .second, .val (.int (3 : Int32))] [(.int (3 : Int32))]))
  refine own_go (fun _ kk_ => XS.aloadN X18.here hx rfl (hb hby d3_5) rfl rfl kk_) ?_
  show own_G p e below s _ _ _ (T18.setTop (mkF m 6 #[.val (.ref a), .val (.double x1), .second, .val (.double x2), .second, .val (.int (3 : Int32))] [(.ref a), (.int (3 : Int32))]))
  have Vc19 := V18_a
  obtain ⟨cl19, Ar19, q19, S19, M19, H19, G19⟩ := Vc19
  refine own_go (X18.arraylength hx (cell := cl19) (by rw [e18]; exact Ar19.1) (State.isArrayOf_alike hZ.alike Ar19.2.1) (g := (mkF m 6 #[.val (.ref a), .val (.double x1), .second, .val (.double x2), .second, .val (.int (3 : Int32))] [(.ref a), (.int (3 : Int32))])) rfl (rest := [(.int (3 : Int32))]) rfl (hb hby d3_6)) ?_
  rw [len_of S19 M19]
  show own_G p e below s _ _ _ (T18.setTop (mkF m 7 #[.val (.ref a), .val (.double x1), .second, .val (.double x2), .second, .val (.int (3 : Int32))] [(.int (3 : Int32)), (.int (3 : Int32))]))
  refine own_ic_geY X18 hx (pc := 7) (pc' := 32) (hb hby d3_7) (by decide) (by decide) (by decide) ?_
  show own_G p e below s _ _ _ (T18.setTop (mkF m 32 #[.val (.ref a), .val (.double x1), .second, .val (.double x2), .second, .val (.int (3 : Int32))] []))
  exact own_ret0 X18 hx Bd.returns (BodyLoose.notSynchronized Bd) (hb hby d3_32) e18 ⟨rfl, N18, Z18, V18_a⟩ (by decide) (by decide)
theorem pd_3 : parseMethodDescriptor "(DDD)D" = some ⟨[.double, .double, .double], some .double⟩ := by decide +kernel
theorem pd_1 : parseMethodDescriptor "(II)I" = some ⟨[.int, .int], some .int⟩ := by decide +kernel
theorem pd_2 : parseMethodDescriptor "([DDD)V" = some ⟨[(.array .double), .double, .double], none⟩ := by decide +kernel
theorem ef_rm0 (m : MethodId) (x0 : Int32) (x1 : Int32) (x2 : Int32) (x3 : Int32) (x4 : Int32) (x5 : Int32) : entryFrame m #[(.int x0), (.int x1), (.int x2), (.int x3), (.int x4), (.int x5)] maxLocals = mkF m 0 #[.val (.int x0), .val (.int x1), .val (.int x2), .val (.int x3), .val (.int x4), .val (.int x5), .unset, .unset, .unset, .unset, .unset, .unset, .unset, .unset, .unset, .unset, .unset] [] := by first | (simp [entryFrame, mkF, argsToLocals, Value.category, maxLocals]; done) | rfl
def Q_rm0 (Z : State) (x0 x1 x2 x3 x4 x5 : Int32) (h0 : Heap) (n0 : Nat) : Option Value → Heap → List Loc → Prop := fun v h L => v = some (.int 1) ∧ Fr n0 L
set_option maxRecDepth 65536 in
set_option maxHeartbeats 40000000 in
theorem rm0 (l : Launch) (Z : State) (a0 : Array Value) (hw : ∀ d ∈ tables_1, d.before a0 Z = true) (ws : List Jvm.Cond) (x0 x1 x2 x3 x4 x5 : Int32) (h0 : Heap) (n0 : Nat) (Z0 : n0 ≤ h0.size)  :
    MetFree l x (head1 (Jvm.Cond.code x code maxLocals ret :: ws) room_1) (fun as_ U => as_ = #[(.int x0), (.int x1), (.int x2), (.int x3), (.int x4), (.int x5)] ∧ Z.Warmed39 U.vm ∧ U.heap = h0) (fun _ _ _ _ _ => True) (fun _ U o U' => ∃ v L, o = .returned v ∧ (Q_rm0 Z x0 x1 x2 x3 x4 x5 h0 n0) v U'.heap L ∧ FrameEnd U o U' L 16 128) := by
  refine MetFree.of_bodySF (plainFor_of_name pn_0) hisR ?_
  intro p e s m args below meth c s₁ Bd hml0 hP hK
  obtain ⟨rfl, hZ, hh⟩ := hP
  have hx := Bd.exec
  have hby := Bd.bytes
  have hml : c.maxLocals = 17 := hml0
  have hown : s.vm.findClass "com/example/sixteenfold/sixteenfold/resizing/RowResizerClampPinLaw" = some m.cls := findClass_of_methodNamed Bd.named
  have hnm := (name_of_methodNamed Bd.named Bd.method).1
  have X0 : Stand p l e room_1 s m #[(.int x0), (.int x1), (.int x2), (.int x3), (.int x4), (.int x5)] below meth c s₁ [] 0 0 := Stand.of_body Bd
  have e0 : s₁.heap = h0 := by rw [← hh, Bd.state]; rfl
  have N0 := Fr.nil n0
  show own_G p e below s (Q_rm0 Z x0 x1 x2 x3 x4 x5 h0 n0) 16 128 (s₁.setTop (entryFrame m #[(.int x0), (.int x1), (.int x2), (.int x3), (.int x4), (.int x5)] maxLocals))
  rw [ef_rm0 m x0 x1 x2 x3 x4 x5]
  show own_G p e below s _ _ _ (s₁.setTop (mkF m 0 #[.val (.int x0), .val (.int x1), .val (.int x2), .val (.int x3), .val (.int x4), .val (.int x5), .unset, .unset, .unset, .unset, .unset, .unset, .unset, .unset, .unset, .unset, .unset] []))
  refine own_go (fun _ kk_ => XS.iloadN X0.here hx rfl (hb hby at_0) rfl kk_) ?_
  show own_G p e below s _ _ _ (s₁.setTop (mkF m 1 #[.val (.int x0), .val (.int x1), .val (.int x2), .val (.int x3), .val (.int x4), .val (.int x5), .unset, .unset, .unset, .unset, .unset, .unset, .unset, .unset, .unset, .unset, .unset] [(.int x0)]))
  refine own_go (fun _ kk_ => XS.iloadN X0.here hx rfl (hb hby at_1) rfl kk_) ?_
  show own_G p e below s _ _ _ (s₁.setTop (mkF m 2 #[.val (.int x0), .val (.int x1), .val (.int x2), .val (.int x3), .val (.int x4), .val (.int x5), .unset, .unset, .unset, .unset, .unset, .unset, .unset, .unset, .unset, .unset, .unset] [(.int x1), (.int x0)]))
  obtain ⟨_, _, ⟨T1, L1, k1, n1⟩, -, X1, ⟨Lc1, hQ1, l1, y1, z1⟩, st1⟩ := Jvm.LawKit.callS X0 hx (y := (⟨"java/lang/Math", "min", "(II)I"⟩ : MethodName)) hown (mvT hZ (hw _ (List.mem_of_getElem? (i := 0) rfl))) (mvT hZ (hw _ (List.mem_of_getElem? (i := 1) rfl))) (mvT hZ (hw _ (List.mem_of_getElem? (i := 2) rfl))) (mvT hZ (hw _ (List.mem_of_getElem? (i := 3) rfl))) (by decide) (backOf (W := 0) (rmMin l Z a0 hw [] x0 x1 h0 n0 Z0) hZ (hw _ (List.mem_of_getElem? (i := 3) rfl)) (hw _ (List.mem_of_getElem? (i := 2) rfl)) (by decide) (by decide)) (g := (mkF m 2 #[.val (.int x0), .val (.int x1), .val (.int x2), .val (.int x3), .val (.int x4), .val (.int x5), .unset, .unset, .unset, .unset, .unset, .unset, .unset, .unset, .unset, .unset, .unset] [(.int x1), (.int x0)])) rfl (by rw [hml]; rfl) (argsL := [(.int x0), (.int x1)]) (rest := []) (lenOf pd_1 rfl) rfl (by show 2 * 0 + _ ≤ _; exact Nat.le_of_eq rfl) (hb hby at_2) (fun _ _ => ⟨rfl, e0, (by decide : 0 + 0 ≤ _), (by decide : 0 + 0 ≤ _)⟩)
  dsimp only [Pt.U, Pt.locs, Pt.cells, Pt.slots] at X1 l1 y1 z1 st1 hQ1
  subst l1 y1 z1
  obtain ⟨rfl, N1q, e1⟩ := hQ1
  have N1 := Fr.app N0 N1q
  refine own_go st1 ?_
  show own_G p e below s _ _ _ (T1.setTop (mkF m 5 #[.val (.int x0), .val (.int x1), .val (.int x2), .val (.int x3), .val (.int x4), .val (.int x5), .unset, .unset, .unset, .unset, .unset, .unset, .unset, .unset, .unset, .unset, .unset] [(.int (own_min x0 x1))]))
  refine own_go (fun _ kk_ => XS.i2dS X1.here hx rfl (hb hby at_5) rfl rfl kk_) ?_
  show own_G p e below s _ _ _ (T1.setTop (mkF m 6 #[.val (.int x0), .val (.int x1), .val (.int x2), .val (.int x3), .val (.int x4), .val (.int x5), .unset, .unset, .unset, .unset, .unset, .unset, .unset, .unset, .unset, .unset, .unset] [(.double (FP.i2d (own_min x0 x1)))]))
  refine own_go (fun _ kk_ => XS.dstore X1.here hx rfl (hb hby at_6) rfl (l' := #[.val (.int x0), .val (.int x1), .val (.int x2), .val (.int x3), .val (.int x4), .val (.int x5), .val (.double (FP.i2d (own_min x0 x1))), .second, .unset, .unset, .unset, .unset, .unset, .unset, .unset, .unset, .unset]) rfl kk_) ?_
  show own_G p e below s _ _ _ (T1.setTop (mkF m 8 #[.val (.int x0), .val (.int x1), .val (.int x2), .val (.int x3), .val (.int x4), .val (.int x5), .val (.double (FP.i2d (own_min x0 x1))), .second, .unset, .unset, .unset, .unset, .unset, .unset, .unset, .unset, .unset] []))
  refine own_go (fun _ kk_ => XS.iloadN X1.here hx rfl (hb hby at_8) rfl kk_) ?_
  show own_G p e below s _ _ _ (T1.setTop (mkF m 9 #[.val (.int x0), .val (.int x1), .val (.int x2), .val (.int x3), .val (.int x4), .val (.int x5), .val (.double (FP.i2d (own_min x0 x1))), .second, .unset, .unset, .unset, .unset, .unset, .unset, .unset, .unset, .unset] [(.int x0)]))
  refine own_go (fun _ kk_ => XS.iloadN X1.here hx rfl (hb hby at_9) rfl kk_) ?_
  show own_G p e below s _ _ _ (T1.setTop (mkF m 10 #[.val (.int x0), .val (.int x1), .val (.int x2), .val (.int x3), .val (.int x4), .val (.int x5), .val (.double (FP.i2d (own_min x0 x1))), .second, .unset, .unset, .unset, .unset, .unset, .unset, .unset, .unset, .unset] [(.int x1), (.int x0)]))
  obtain ⟨_, _, ⟨T2, L2, k2, n2⟩, -, X2, ⟨Lc2, hQ2, l2, y2, z2⟩, st2⟩ := Jvm.LawKit.callS X1 hx (y := (⟨"java/lang/Math", "max", "(II)I"⟩ : MethodName)) hown (mvT hZ (hw _ (List.mem_of_getElem? (i := 4) rfl))) (mvT hZ (hw _ (List.mem_of_getElem? (i := 5) rfl))) (mvT hZ (hw _ (List.mem_of_getElem? (i := 2) rfl))) (mvT hZ (hw _ (List.mem_of_getElem? (i := 6) rfl))) (by decide) (backOf (W := 0) (rmMax l Z a0 hw [] x0 x1 h0 n0 Z0) hZ (hw _ (List.mem_of_getElem? (i := 6) rfl)) (hw _ (List.mem_of_getElem? (i := 2) rfl)) (by decide) (by decide)) (g := (mkF m 10 #[.val (.int x0), .val (.int x1), .val (.int x2), .val (.int x3), .val (.int x4), .val (.int x5), .val (.double (FP.i2d (own_min x0 x1))), .second, .unset, .unset, .unset, .unset, .unset, .unset, .unset, .unset, .unset] [(.int x1), (.int x0)])) rfl (by rw [hml]; rfl) (argsL := [(.int x0), (.int x1)]) (rest := []) (lenOf pd_1 rfl) rfl (by show 2 * 0 + _ ≤ _; exact Nat.le_of_eq rfl) (hb hby at_10) (fun _ _ => ⟨rfl, e1, (by decide : 0 + 0 ≤ _), (by decide : 0 + 0 ≤ _)⟩)
  dsimp only [Pt.U, Pt.locs, Pt.cells, Pt.slots] at X2 l2 y2 z2 st2 hQ2
  subst l2 y2 z2
  obtain ⟨rfl, N2q, e2⟩ := hQ2
  have N2 := Fr.app N1 N2q
  refine own_go st2 ?_
  show own_G p e below s _ _ _ (T2.setTop (mkF m 13 #[.val (.int x0), .val (.int x1), .val (.int x2), .val (.int x3), .val (.int x4), .val (.int x5), .val (.double (FP.i2d (own_min x0 x1))), .second, .unset, .unset, .unset, .unset, .unset, .unset, .unset, .unset, .unset] [(.int (own_max x0 x1))]))
  refine own_go (fun _ kk_ => XS.i2dS X2.here hx rfl (hb hby at_13) rfl rfl kk_) ?_
  show own_G p e below s _ _ _ (T2.setTop (mkF m 14 #[.val (.int x0), .val (.int x1), .val (.int x2), .val (.int x3), .val (.int x4), .val (.int x5), .val (.double (FP.i2d (own_min x0 x1))), .second, .unset, .unset, .unset, .unset, .unset, .unset, .unset, .unset, .unset] [(.double (FP.i2d (own_max x0 x1)))]))
  refine own_go (fun _ kk_ => XS.dstore X2.here hx rfl (hb hby at_14) rfl (l' := #[.val (.int x0), .val (.int x1), .val (.int x2), .val (.int x3), .val (.int x4), .val (.int x5), .val (.double (FP.i2d (own_min x0 x1))), .second, .val (.double (FP.i2d (own_max x0 x1))), .second, .unset, .unset, .unset, .unset, .unset, .unset, .unset]) rfl kk_) ?_
  show own_G p e below s _ _ _ (T2.setTop (mkF m 16 #[.val (.int x0), .val (.int x1), .val (.int x2), .val (.int x3), .val (.int x4), .val (.int x5), .val (.double (FP.i2d (own_min x0 x1))), .second, .val (.double (FP.i2d (own_max x0 x1))), .second, .unset, .unset, .unset, .unset, .unset, .unset, .unset] []))
  refine own_go (fun _ kk_ => XS.iload X2.here hx rfl (hb hby at_16) rfl kk_) ?_
  show own_G p e below s _ _ _ (T2.setTop (mkF m 18 #[.val (.int x0), .val (.int x1), .val (.int x2), .val (.int x3), .val (.int x4), .val (.int x5), .val (.double (FP.i2d (own_min x0 x1))), .second, .val (.double (FP.i2d (own_max x0 x1))), .second, .unset, .unset, .unset, .unset, .unset, .unset, .unset] [(.int x5)]))
  refine own_go (fun _ kk_ => XS.iconst X2.here hx rfl (hb hby at_18) kk_) ?_
  show own_G p e below s _ _ _ (T2.setTop (mkF m 19 #[.val (.int x0), .val (.int x1), .val (.int x2), .val (.int x3), .val (.int x4), .val (.int x5), .val (.double (FP.i2d (own_min x0 x1))), .second, .val (.double (FP.i2d (own_max x0 x1))), .second, .unset, .unset, .unset, .unset, .unset, .unset, .unset] [(.int (1 : Int32)), (.int x5)]))
  refine own_go (fun _ kk_ => XS.iand X2.here hx rfl (hb hby at_19) rfl kk_) ?_
  show own_G p e below s _ _ _ (T2.setTop (mkF m 20 #[.val (.int x0), .val (.int x1), .val (.int x2), .val (.int x3), .val (.int x4), .val (.int x5), .val (.double (FP.i2d (own_min x0 x1))), .second, .val (.double (FP.i2d (own_max x0 x1))), .second, .unset, .unset, .unset, .unset, .unset, .unset, .unset] [(.int (x5 &&& (1 : Int32)))]))
  suffices JLO : ∀ (LO : UInt64), own_N LO → own_k LO ≤ own_k (FP.i2d (own_min x0 x1)) → own_G p e below s (Q_rm0 Z x0 x1 x2 x3 x4 x5 h0 n0) 16 128 (T2.setTop (mkF m 28 #[.val (.int x0), .val (.int x1), .val (.int x2), .val (.int x3), .val (.int x4), .val (.int x5), .val (.double LO), .second, .val (.double (FP.i2d (own_max x0 x1))), .second, .unset, .unset, .unset, .unset, .unset, .unset, .unset] [])) by
    show own_G p e below s _ _ _ (T2.setTop (mkF m 20 #[.val (.int x0), .val (.int x1), .val (.int x2), .val (.int x3), .val (.int x4), .val (.int x5), .val (.double (FP.i2d (own_min x0 x1))), .second, .val (.double (FP.i2d (own_max x0 x1))), .second, .unset, .unset, .unset, .unset, .unset, .unset, .unset] [(.int (x5 &&& (1 : Int32)))]))
    refine own_if_eq X2 hx (pc := 20) (pc' := 28) (hb hby at_20) (by decide) (by decide) (fun hc20 => ?_) (fun hc20 => ?_)
    · exact JLO _ (own_Ni _) (Int.le_refl _)
    · show own_G p e below s _ _ _ (T2.setTop (mkF m 23 #[.val (.int x0), .val (.int x1), .val (.int x2), .val (.int x3), .val (.int x4), .val (.int x5), .val (.double (FP.i2d (own_min x0 x1))), .second, .val (.double (FP.i2d (own_max x0 x1))), .second, .unset, .unset, .unset, .unset, .unset, .unset, .unset] []))
      refine own_go (fun _ kk_ => X2.ldc2DoubleC hx hown (mvT hZ (hw _ (List.mem_of_getElem? (i := 7) rfl))) (g := (mkF m 23 #[.val (.int x0), .val (.int x1), .val (.int x2), .val (.int x3), .val (.int x4), .val (.int x5), .val (.double (FP.i2d (own_min x0 x1))), .second, .val (.double (FP.i2d (own_max x0 x1))), .second, .unset, .unset, .unset, .unset, .unset, .unset, .unset] [])) rfl (hb hby at_23) _ kk_) ?_
      show own_G p e below s _ _ _ (T2.setTop (mkF m 26 #[.val (.int x0), .val (.int x1), .val (.int x2), .val (.int x3), .val (.int x4), .val (.int x5), .val (.double (FP.i2d (own_min x0 x1))), .second, .val (.double (FP.i2d (own_max x0 x1))), .second, .unset, .unset, .unset, .unset, .unset, .unset, .unset] [(.double (18442240474082181120 : UInt64))]))
      refine own_go (fun _ kk_ => XS.dstore X2.here hx rfl (hb hby at_26) rfl (l' := #[.val (.int x0), .val (.int x1), .val (.int x2), .val (.int x3), .val (.int x4), .val (.int x5), .val (.double (18442240474082181120 : UInt64)), .second, .val (.double (FP.i2d (own_max x0 x1))), .second, .unset, .unset, .unset, .unset, .unset, .unset, .unset]) rfl kk_) ?_
      exact JLO _ own_Nlo (own_klo _)
  intro LO nLO kLO
  show own_G p e below s _ _ _ (T2.setTop (mkF m 28 #[.val (.int x0), .val (.int x1), .val (.int x2), .val (.int x3), .val (.int x4), .val (.int x5), .val (.double LO), .second, .val (.double (FP.i2d (own_max x0 x1))), .second, .unset, .unset, .unset, .unset, .unset, .unset, .unset] []))
  refine own_go (fun _ kk_ => XS.iload X2.here hx rfl (hb hby at_28) rfl kk_) ?_
  show own_G p e below s _ _ _ (T2.setTop (mkF m 30 #[.val (.int x0), .val (.int x1), .val (.int x2), .val (.int x3), .val (.int x4), .val (.int x5), .val (.double LO), .second, .val (.double (FP.i2d (own_max x0 x1))), .second, .unset, .unset, .unset, .unset, .unset, .unset, .unset] [(.int x5)]))
  refine own_go (fun _ kk_ => XS.iconst X2.here hx rfl (hb hby at_30) kk_) ?_
  show own_G p e below s _ _ _ (T2.setTop (mkF m 31 #[.val (.int x0), .val (.int x1), .val (.int x2), .val (.int x3), .val (.int x4), .val (.int x5), .val (.double LO), .second, .val (.double (FP.i2d (own_max x0 x1))), .second, .unset, .unset, .unset, .unset, .unset, .unset, .unset] [(.int (2 : Int32)), (.int x5)]))
  refine own_go (fun _ kk_ => XS.iand X2.here hx rfl (hb hby at_31) rfl kk_) ?_
  show own_G p e below s _ _ _ (T2.setTop (mkF m 32 #[.val (.int x0), .val (.int x1), .val (.int x2), .val (.int x3), .val (.int x4), .val (.int x5), .val (.double LO), .second, .val (.double (FP.i2d (own_max x0 x1))), .second, .unset, .unset, .unset, .unset, .unset, .unset, .unset] [(.int (x5 &&& (2 : Int32)))]))
  suffices JHI : ∀ (HI : UInt64), own_N HI → own_k (FP.i2d (own_max x0 x1)) ≤ own_k HI → own_G p e below s (Q_rm0 Z x0 x1 x2 x3 x4 x5 h0 n0) 16 128 (T2.setTop (mkF m 40 #[.val (.int x0), .val (.int x1), .val (.int x2), .val (.int x3), .val (.int x4), .val (.int x5), .val (.double LO), .second, .val (.double HI), .second, .unset, .unset, .unset, .unset, .unset, .unset, .unset] [])) by
    show own_G p e below s _ _ _ (T2.setTop (mkF m 32 #[.val (.int x0), .val (.int x1), .val (.int x2), .val (.int x3), .val (.int x4), .val (.int x5), .val (.double LO), .second, .val (.double (FP.i2d (own_max x0 x1))), .second, .unset, .unset, .unset, .unset, .unset, .unset, .unset] [(.int (x5 &&& (2 : Int32)))]))
    refine own_if_eq X2 hx (pc := 32) (pc' := 40) (hb hby at_32) (by decide) (by decide) (fun hc32 => ?_) (fun hc32 => ?_)
    · exact JHI _ (own_Ni _) (Int.le_refl _)
    · show own_G p e below s _ _ _ (T2.setTop (mkF m 35 #[.val (.int x0), .val (.int x1), .val (.int x2), .val (.int x3), .val (.int x4), .val (.int x5), .val (.double LO), .second, .val (.double (FP.i2d (own_max x0 x1))), .second, .unset, .unset, .unset, .unset, .unset, .unset, .unset] []))
      refine own_go (fun _ kk_ => X2.ldc2DoubleC hx hown (mvT hZ (hw _ (List.mem_of_getElem? (i := 8) rfl))) (g := (mkF m 35 #[.val (.int x0), .val (.int x1), .val (.int x2), .val (.int x3), .val (.int x4), .val (.int x5), .val (.double LO), .second, .val (.double (FP.i2d (own_max x0 x1))), .second, .unset, .unset, .unset, .unset, .unset, .unset, .unset] [])) rfl (hb hby at_35) _ kk_) ?_
      show own_G p e below s _ _ _ (T2.setTop (mkF m 38 #[.val (.int x0), .val (.int x1), .val (.int x2), .val (.int x3), .val (.int x4), .val (.int x5), .val (.double LO), .second, .val (.double (FP.i2d (own_max x0 x1))), .second, .unset, .unset, .unset, .unset, .unset, .unset, .unset] [(.double (9218868437227405312 : UInt64))]))
      refine own_go (fun _ kk_ => XS.dstore X2.here hx rfl (hb hby at_38) rfl (l' := #[.val (.int x0), .val (.int x1), .val (.int x2), .val (.int x3), .val (.int x4), .val (.int x5), .val (.double LO), .second, .val (.double (9218868437227405312 : UInt64)), .second, .unset, .unset, .unset, .unset, .unset, .unset, .unset]) rfl kk_) ?_
      exact JHI _ own_Nhi (own_khi _)
  intro HI nHI kHI
  have hLH : own_k LO ≤ own_k HI := Int.le_trans kLO (Int.le_trans (own_ki (own_mm x0 x1)) kHI)
  show own_G p e below s _ _ _ (T2.setTop (mkF m 40 #[.val (.int x0), .val (.int x1), .val (.int x2), .val (.int x3), .val (.int x4), .val (.int x5), .val (.double LO), .second, .val (.double HI), .second, .unset, .unset, .unset, .unset, .unset, .unset, .unset] []))
  refine own_go (fun _ kk_ => XS.iloadN X2.here hx rfl (hb hby at_40) rfl kk_) ?_
  show own_G p e below s _ _ _ (T2.setTop (mkF m 41 #[.val (.int x0), .val (.int x1), .val (.int x2), .val (.int x3), .val (.int x4), .val (.int x5), .val (.double LO), .second, .val (.double HI), .second, .unset, .unset, .unset, .unset, .unset, .unset, .unset] [(.int x2)]))
  refine own_go (fun _ kk_ => XS.i2dS X2.here hx rfl (hb hby at_41) rfl rfl kk_) ?_
  show own_G p e below s _ _ _ (T2.setTop (mkF m 42 #[.val (.int x0), .val (.int x1), .val (.int x2), .val (.int x3), .val (.int x4), .val (.int x5), .val (.double LO), .second, .val (.double HI), .second, .unset, .unset, .unset, .unset, .unset, .unset, .unset] [(.double (FP.i2d x2))]))
  refine own_go (fun _ kk_ => XS.dstore X2.here hx rfl (hb hby at_42) rfl (l' := #[.val (.int x0), .val (.int x1), .val (.int x2), .val (.int x3), .val (.int x4), .val (.int x5), .val (.double LO), .second, .val (.double HI), .second, .val (.double (FP.i2d x2)), .second, .unset, .unset, .unset, .unset, .unset]) rfl kk_) ?_
  show own_G p e below s _ _ _ (T2.setTop (mkF m 44 #[.val (.int x0), .val (.int x1), .val (.int x2), .val (.int x3), .val (.int x4), .val (.int x5), .val (.double LO), .second, .val (.double HI), .second, .val (.double (FP.i2d x2)), .second, .unset, .unset, .unset, .unset, .unset] []))
  refine own_go (fun _ kk_ => XS.iloadN X2.here hx rfl (hb hby at_44) rfl kk_) ?_
  show own_G p e below s _ _ _ (T2.setTop (mkF m 45 #[.val (.int x0), .val (.int x1), .val (.int x2), .val (.int x3), .val (.int x4), .val (.int x5), .val (.double LO), .second, .val (.double HI), .second, .val (.double (FP.i2d x2)), .second, .unset, .unset, .unset, .unset, .unset] [(.int x3)]))
  refine own_go (fun _ kk_ => XS.i2dS X2.here hx rfl (hb hby at_45) rfl rfl kk_) ?_
  show own_G p e below s _ _ _ (T2.setTop (mkF m 46 #[.val (.int x0), .val (.int x1), .val (.int x2), .val (.int x3), .val (.int x4), .val (.int x5), .val (.double LO), .second, .val (.double HI), .second, .val (.double (FP.i2d x2)), .second, .unset, .unset, .unset, .unset, .unset] [(.double (FP.i2d x3))]))
  refine own_go (fun _ kk_ => XS.dstore X2.here hx rfl (hb hby at_46) rfl (l' := #[.val (.int x0), .val (.int x1), .val (.int x2), .val (.int x3), .val (.int x4), .val (.int x5), .val (.double LO), .second, .val (.double HI), .second, .val (.double (FP.i2d x2)), .second, .val (.double (FP.i2d x3)), .second, .unset, .unset, .unset]) rfl kk_) ?_
  show own_G p e below s _ _ _ (T2.setTop (mkF m 48 #[.val (.int x0), .val (.int x1), .val (.int x2), .val (.int x3), .val (.int x4), .val (.int x5), .val (.double LO), .second, .val (.double HI), .second, .val (.double (FP.i2d x2)), .second, .val (.double (FP.i2d x3)), .second, .unset, .unset, .unset] []))
  refine own_go (fun _ kk_ => XS.iload X2.here hx rfl (hb hby at_48) rfl kk_) ?_
  show own_G p e below s _ _ _ (T2.setTop (mkF m 50 #[.val (.int x0), .val (.int x1), .val (.int x2), .val (.int x3), .val (.int x4), .val (.int x5), .val (.double LO), .second, .val (.double HI), .second, .val (.double (FP.i2d x2)), .second, .val (.double (FP.i2d x3)), .second, .unset, .unset, .unset] [(.int x4)]))
  refine own_go (fun _ kk_ => XS.i2dS X2.here hx rfl (hb hby at_50) rfl rfl kk_) ?_
  show own_G p e below s _ _ _ (T2.setTop (mkF m 51 #[.val (.int x0), .val (.int x1), .val (.int x2), .val (.int x3), .val (.int x4), .val (.int x5), .val (.double LO), .second, .val (.double HI), .second, .val (.double (FP.i2d x2)), .second, .val (.double (FP.i2d x3)), .second, .unset, .unset, .unset] [(.double (FP.i2d x4))]))
  refine own_go (fun _ kk_ => XS.dstore X2.here hx rfl (hb hby at_51) rfl (l' := #[.val (.int x0), .val (.int x1), .val (.int x2), .val (.int x3), .val (.int x4), .val (.int x5), .val (.double LO), .second, .val (.double HI), .second, .val (.double (FP.i2d x2)), .second, .val (.double (FP.i2d x3)), .second, .val (.double (FP.i2d x4)), .second, .unset]) rfl kk_) ?_
  show own_G p e below s _ _ _ (T2.setTop (mkF m 53 #[.val (.int x0), .val (.int x1), .val (.int x2), .val (.int x3), .val (.int x4), .val (.int x5), .val (.double LO), .second, .val (.double HI), .second, .val (.double (FP.i2d x2)), .second, .val (.double (FP.i2d x3)), .second, .val (.double (FP.i2d x4)), .second, .unset] []))
  refine own_go (fun _ kk_ => XS.iconst X2.here hx rfl (hb hby at_53) kk_) ?_
  show own_G p e below s _ _ _ (T2.setTop (mkF m 54 #[.val (.int x0), .val (.int x1), .val (.int x2), .val (.int x3), .val (.int x4), .val (.int x5), .val (.double LO), .second, .val (.double HI), .second, .val (.double (FP.i2d x2)), .second, .val (.double (FP.i2d x3)), .second, .val (.double (FP.i2d x4)), .second, .unset] [(.int (3 : Int32))]))
  obtain ⟨T3, h3, k3, X3, e3, E3, A3, st3⟩ := newP X2 hx hZ (hw _ (List.mem_of_getElem? (i := 9) rfl)) e2 (g := (mkF m 54 #[.val (.int x0), .val (.int x1), .val (.int x2), .val (.int x3), .val (.int x4), .val (.int x5), .val (.double LO), .second, .val (.double HI), .second, .val (.double (FP.i2d x2)), .second, .val (.double (FP.i2d x3)), .second, .val (.double (FP.i2d x4)), .second, .unset] [(.int (3 : Int32))])) rfl (hb hby at_54) rfl (by decide) (cap := 3) (by decide) (by decide) (by decide) (by decide)
  obtain ⟨b3, g3⟩ : ∃ z, z = h0.size := ⟨_, rfl⟩
  rw [← g3] at A3 st3
  refine own_go st3 ?_
  have g_b3 : n0 ≤ b3 := Nat.le_trans Z0 (Nat.le_of_eq g3.symm)
  have Z3 : n0 ≤ h3.size := Nat.le_trans Z0 E3.1
  have V3_b3 : Arv Z h3 b3 k3 .double (3 : Int32) [(.double (0 : UInt64)), (.double (0 : UInt64)), (.double (0 : UInt64))] (.double (0 : UInt64)) := (Arv.new A3 (by decide)).pad (pad_rep [] (.double (0 : UInt64)) 3)
  show own_G p e below s _ _ _ (T3.setTop (mkF m 56 #[.val (.int x0), .val (.int x1), .val (.int x2), .val (.int x3), .val (.int x4), .val (.int x5), .val (.double LO), .second, .val (.double HI), .second, .val (.double (FP.i2d x2)), .second, .val (.double (FP.i2d x3)), .second, .val (.double (FP.i2d x4)), .second, .unset] [(.ref b3)]))
  refine own_go (fun _ kk_ => XS.dup X3.here hx rfl (hb hby at_56) rfl rfl kk_) ?_
  show own_G p e below s _ _ _ (T3.setTop (mkF m 57 #[.val (.int x0), .val (.int x1), .val (.int x2), .val (.int x3), .val (.int x4), .val (.int x5), .val (.double LO), .second, .val (.double HI), .second, .val (.double (FP.i2d x2)), .second, .val (.double (FP.i2d x3)), .second, .val (.double (FP.i2d x4)), .second, .unset] [(.ref b3), (.ref b3)]))
  refine own_go (fun _ kk_ => XS.iconst X3.here hx rfl (hb hby at_57) kk_) ?_
  show own_G p e below s _ _ _ (T3.setTop (mkF m 58 #[.val (.int x0), .val (.int x1), .val (.int x2), .val (.int x3), .val (.int x4), .val (.int x5), .val (.double LO), .second, .val (.double HI), .second, .val (.double (FP.i2d x2)), .second, .val (.double (FP.i2d x3)), .second, .val (.double (FP.i2d x4)), .second, .unset] [(.int (0 : Int32)), (.ref b3), (.ref b3)]))
  refine own_go (fun _ kk_ => XS.dload X3.here hx rfl (hb hby at_58) rfl kk_) ?_
  show own_G p e below s _ _ _ (T3.setTop (mkF m 60 #[.val (.int x0), .val (.int x1), .val (.int x2), .val (.int x3), .val (.int x4), .val (.int x5), .val (.double LO), .second, .val (.double HI), .second, .val (.double (FP.i2d x2)), .second, .val (.double (FP.i2d x3)), .second, .val (.double (FP.i2d x4)), .second, .unset] [(.double (FP.i2d x2)), (.int (0 : Int32)), (.ref b3), (.ref b3)]))
  have Vc4 := V3_b3
  obtain ⟨cl4, Ar4, q4, S4, M4, H4, G4⟩ := Vc4
  have hin4 := inb_of (j := (0 : Int32)) S4 ⟨(by decide), (by decide)⟩
  obtain ⟨T5, h5, X5, e5, W5, st5⟩ := stD X3 hx hZ e3 Ar4 (j := (0 : Int32)) hin4 (g := (mkF m 60 #[.val (.int x0), .val (.int x1), .val (.int x2), .val (.int x3), .val (.int x4), .val (.int x5), .val (.double LO), .second, .val (.double HI), .second, .val (.double (FP.i2d x2)), .second, .val (.double (FP.i2d x3)), .second, .val (.double (FP.i2d x4)), .second, .unset] [(.double (FP.i2d x2)), (.int (0 : Int32)), (.ref b3), (.ref b3)])) rfl rfl (hb hby at_60)
  refine own_go st5 ?_
  have V5_b3 : Arv Z h5 b3 k3 .double (3 : Int32) [(.double (FP.i2d x2)), (.double (0 : UInt64)), (.double (0 : UInt64))] (.double (0 : UInt64)) := Arv.set Ar4 q4 S4 M4 H4 G4 rfl W5 0 rfl (Nat.le_of_ble_eq_true rfl)
  have Z5 : n0 ≤ h5.size := by rw [W5.size]; exact Z3
  have N5 := Fr.snoc X5 N2 g_b3
  show own_G p e below s _ _ _ (T5.setTop (mkF m 61 #[.val (.int x0), .val (.int x1), .val (.int x2), .val (.int x3), .val (.int x4), .val (.int x5), .val (.double LO), .second, .val (.double HI), .second, .val (.double (FP.i2d x2)), .second, .val (.double (FP.i2d x3)), .second, .val (.double (FP.i2d x4)), .second, .unset] [(.ref b3)]))
  refine own_go (fun _ kk_ => XS.dup X5.here hx rfl (hb hby at_61) rfl rfl kk_) ?_
  show own_G p e below s _ _ _ (T5.setTop (mkF m 62 #[.val (.int x0), .val (.int x1), .val (.int x2), .val (.int x3), .val (.int x4), .val (.int x5), .val (.double LO), .second, .val (.double HI), .second, .val (.double (FP.i2d x2)), .second, .val (.double (FP.i2d x3)), .second, .val (.double (FP.i2d x4)), .second, .unset] [(.ref b3), (.ref b3)]))
  refine own_go (fun _ kk_ => XS.iconst X5.here hx rfl (hb hby at_62) kk_) ?_
  show own_G p e below s _ _ _ (T5.setTop (mkF m 63 #[.val (.int x0), .val (.int x1), .val (.int x2), .val (.int x3), .val (.int x4), .val (.int x5), .val (.double LO), .second, .val (.double HI), .second, .val (.double (FP.i2d x2)), .second, .val (.double (FP.i2d x3)), .second, .val (.double (FP.i2d x4)), .second, .unset] [(.int (1 : Int32)), (.ref b3), (.ref b3)]))
  refine own_go (fun _ kk_ => XS.dload X5.here hx rfl (hb hby at_63) rfl kk_) ?_
  show own_G p e below s _ _ _ (T5.setTop (mkF m 65 #[.val (.int x0), .val (.int x1), .val (.int x2), .val (.int x3), .val (.int x4), .val (.int x5), .val (.double LO), .second, .val (.double HI), .second, .val (.double (FP.i2d x2)), .second, .val (.double (FP.i2d x3)), .second, .val (.double (FP.i2d x4)), .second, .unset] [(.double (FP.i2d x3)), (.int (1 : Int32)), (.ref b3), (.ref b3)]))
  have Vc6 := V5_b3
  obtain ⟨cl6, Ar6, q6, S6, M6, H6, G6⟩ := Vc6
  have hin6 := inb_of (j := (1 : Int32)) S6 ⟨(by decide), (by decide)⟩
  obtain ⟨T7, h7, X7, e7, W7, st7⟩ := stD X5 hx hZ e5 Ar6 (j := (1 : Int32)) hin6 (g := (mkF m 65 #[.val (.int x0), .val (.int x1), .val (.int x2), .val (.int x3), .val (.int x4), .val (.int x5), .val (.double LO), .second, .val (.double HI), .second, .val (.double (FP.i2d x2)), .second, .val (.double (FP.i2d x3)), .second, .val (.double (FP.i2d x4)), .second, .unset] [(.double (FP.i2d x3)), (.int (1 : Int32)), (.ref b3), (.ref b3)])) rfl rfl (hb hby at_65)
  refine own_go st7 ?_
  have V7_b3 : Arv Z h7 b3 k3 .double (3 : Int32) [(.double (FP.i2d x2)), (.double (FP.i2d x3)), (.double (0 : UInt64))] (.double (0 : UInt64)) := Arv.set Ar6 q6 S6 M6 H6 G6 rfl W7 1 rfl (Nat.le_of_ble_eq_true rfl)
  have Z7 : n0 ≤ h7.size := by rw [W7.size]; exact Z5
  have N7 := Fr.snoc X7 N5 g_b3
  show own_G p e below s _ _ _ (T7.setTop (mkF m 66 #[.val (.int x0), .val (.int x1), .val (.int x2), .val (.int x3), .val (.int x4), .val (.int x5), .val (.double LO), .second, .val (.double HI), .second, .val (.double (FP.i2d x2)), .second, .val (.double (FP.i2d x3)), .second, .val (.double (FP.i2d x4)), .second, .unset] [(.ref b3)]))
  refine own_go (fun _ kk_ => XS.dup X7.here hx rfl (hb hby at_66) rfl rfl kk_) ?_
  show own_G p e below s _ _ _ (T7.setTop (mkF m 67 #[.val (.int x0), .val (.int x1), .val (.int x2), .val (.int x3), .val (.int x4), .val (.int x5), .val (.double LO), .second, .val (.double HI), .second, .val (.double (FP.i2d x2)), .second, .val (.double (FP.i2d x3)), .second, .val (.double (FP.i2d x4)), .second, .unset] [(.ref b3), (.ref b3)]))
  refine own_go (fun _ kk_ => XS.iconst X7.here hx rfl (hb hby at_67) kk_) ?_
  show own_G p e below s _ _ _ (T7.setTop (mkF m 68 #[.val (.int x0), .val (.int x1), .val (.int x2), .val (.int x3), .val (.int x4), .val (.int x5), .val (.double LO), .second, .val (.double HI), .second, .val (.double (FP.i2d x2)), .second, .val (.double (FP.i2d x3)), .second, .val (.double (FP.i2d x4)), .second, .unset] [(.int (2 : Int32)), (.ref b3), (.ref b3)]))
  refine own_go (fun _ kk_ => XS.dload X7.here hx rfl (hb hby at_68) rfl kk_) ?_
  show own_G p e below s _ _ _ (T7.setTop (mkF m 70 #[.val (.int x0), .val (.int x1), .val (.int x2), .val (.int x3), .val (.int x4), .val (.int x5), .val (.double LO), .second, .val (.double HI), .second, .val (.double (FP.i2d x2)), .second, .val (.double (FP.i2d x3)), .second, .val (.double (FP.i2d x4)), .second, .unset] [(.double (FP.i2d x4)), (.int (2 : Int32)), (.ref b3), (.ref b3)]))
  have Vc8 := V7_b3
  obtain ⟨cl8, Ar8, q8, S8, M8, H8, G8⟩ := Vc8
  have hin8 := inb_of (j := (2 : Int32)) S8 ⟨(by decide), (by decide)⟩
  obtain ⟨T9, h9, X9, e9, W9, st9⟩ := stD X7 hx hZ e7 Ar8 (j := (2 : Int32)) hin8 (g := (mkF m 70 #[.val (.int x0), .val (.int x1), .val (.int x2), .val (.int x3), .val (.int x4), .val (.int x5), .val (.double LO), .second, .val (.double HI), .second, .val (.double (FP.i2d x2)), .second, .val (.double (FP.i2d x3)), .second, .val (.double (FP.i2d x4)), .second, .unset] [(.double (FP.i2d x4)), (.int (2 : Int32)), (.ref b3), (.ref b3)])) rfl rfl (hb hby at_70)
  refine own_go st9 ?_
  have V9_b3 : Arv Z h9 b3 k3 .double (3 : Int32) [(.double (FP.i2d x2)), (.double (FP.i2d x3)), (.double (FP.i2d x4))] (.double (0 : UInt64)) := Arv.set Ar8 q8 S8 M8 H8 G8 rfl W9 2 rfl (Nat.le_of_ble_eq_true rfl)
  have Z9 : n0 ≤ h9.size := by rw [W9.size]; exact Z7
  have N9 := Fr.snoc X9 N7 g_b3
  show own_G p e below s _ _ _ (T9.setTop (mkF m 71 #[.val (.int x0), .val (.int x1), .val (.int x2), .val (.int x3), .val (.int x4), .val (.int x5), .val (.double LO), .second, .val (.double HI), .second, .val (.double (FP.i2d x2)), .second, .val (.double (FP.i2d x3)), .second, .val (.double (FP.i2d x4)), .second, .unset] [(.ref b3)]))
  refine own_go (fun _ kk_ => XS.astore X9.here hx rfl (hb hby at_71) rfl rfl (l' := #[.val (.int x0), .val (.int x1), .val (.int x2), .val (.int x3), .val (.int x4), .val (.int x5), .val (.double LO), .second, .val (.double HI), .second, .val (.double (FP.i2d x2)), .second, .val (.double (FP.i2d x3)), .second, .val (.double (FP.i2d x4)), .second, .val (.ref b3)]) rfl kk_) ?_
  show own_G p e below s _ _ _ (T9.setTop (mkF m 73 #[.val (.int x0), .val (.int x1), .val (.int x2), .val (.int x3), .val (.int x4), .val (.int x5), .val (.double LO), .second, .val (.double HI), .second, .val (.double (FP.i2d x2)), .second, .val (.double (FP.i2d x3)), .second, .val (.double (FP.i2d x4)), .second, .val (.ref b3)] []))
  refine own_go (fun _ kk_ => XS.aload X9.here hx rfl (hb hby at_73) rfl rfl kk_) ?_
  show own_G p e below s _ _ _ (T9.setTop (mkF m 75 #[.val (.int x0), .val (.int x1), .val (.int x2), .val (.int x3), .val (.int x4), .val (.int x5), .val (.double LO), .second, .val (.double HI), .second, .val (.double (FP.i2d x2)), .second, .val (.double (FP.i2d x3)), .second, .val (.double (FP.i2d x4)), .second, .val (.ref b3)] [(.ref b3)]))
  refine own_go (fun _ kk_ => XS.dload X9.here hx rfl (hb hby at_75) rfl kk_) ?_
  show own_G p e below s _ _ _ (T9.setTop (mkF m 77 #[.val (.int x0), .val (.int x1), .val (.int x2), .val (.int x3), .val (.int x4), .val (.int x5), .val (.double LO), .second, .val (.double HI), .second, .val (.double (FP.i2d x2)), .second, .val (.double (FP.i2d x3)), .second, .val (.double (FP.i2d x4)), .second, .val (.ref b3)] [(.double LO), (.ref b3)]))
  refine own_go (fun _ kk_ => XS.dload X9.here hx rfl (hb hby at_77) rfl kk_) ?_
  show own_G p e below s _ _ _ (T9.setTop (mkF m 79 #[.val (.int x0), .val (.int x1), .val (.int x2), .val (.int x3), .val (.int x4), .val (.int x5), .val (.double LO), .second, .val (.double HI), .second, .val (.double (FP.i2d x2)), .second, .val (.double (FP.i2d x3)), .second, .val (.double (FP.i2d x4)), .second, .val (.ref b3)] [(.double HI), (.double LO), (.ref b3)]))
  obtain ⟨_, _, ⟨T10, L10, k10, n10⟩, -, X10, ⟨Lc10, hQ10, l10, y10, z10⟩, st10⟩ := Jvm.LawKit.callS X9 hx (y := (⟨"com/example/sixteenfold/sixteenfold/resizing/RowResizer", "clamp", "([DDD)V"⟩ : MethodName)) hown (mvT hZ (hw _ (List.mem_of_getElem? (i := 10) rfl))) (mvT hZ (hw _ (List.mem_of_getElem? (i := 11) rfl))) (mvT hZ (hw _ (List.mem_of_getElem? (i := 12) rfl))) (mvT hZ (hw _ (List.mem_of_getElem? (i := 13) rfl))) (by decide) (backOf (W := 0) (rmC l Z a0 hw [] b3 k3 (FP.i2d x2) (FP.i2d x3) (FP.i2d x4) LO HI h9 n0 Z9 V9_b3 g_b3 (own_Ni _) (own_Ni _) (own_Ni _) nLO nHI) hZ (hw _ (List.mem_of_getElem? (i := 13) rfl)) (hw _ (List.mem_of_getElem? (i := 12) rfl)) (by decide) (by decide)) (g := (mkF m 79 #[.val (.int x0), .val (.int x1), .val (.int x2), .val (.int x3), .val (.int x4), .val (.int x5), .val (.double LO), .second, .val (.double HI), .second, .val (.double (FP.i2d x2)), .second, .val (.double (FP.i2d x3)), .second, .val (.double (FP.i2d x4)), .second, .val (.ref b3)] [(.double HI), (.double LO), (.ref b3)])) rfl (by rw [hml]; rfl) (argsL := [(.ref b3), (.double LO), (.double HI)]) (rest := []) (lenOf pd_2 rfl) rfl (by show 2 * 0 + _ ≤ _; exact Nat.le_of_eq rfl) (hb hby at_79) (fun _ _ => ⟨rfl, e9, (by decide : 1 + 0 ≤ _), (by decide : 3 + 0 ≤ _)⟩)
  dsimp only [Pt.U, Pt.locs, Pt.cells, Pt.slots] at X10 l10 y10 z10 st10 hQ10
  subst l10 y10 z10
  generalize e10 : T10.heap = h10 at hQ10
  obtain ⟨rfl, N10q, Z10, V10⟩ := hQ10
  have N10 := Fr.app N9 N10q
  refine own_go st10 ?_
  show own_G p e below s _ _ _ (T10.setTop (mkF m 82 #[.val (.int x0), .val (.int x1), .val (.int x2), .val (.int x3), .val (.int x4), .val (.int x5), .val (.double LO), .second, .val (.double HI), .second, .val (.double (FP.i2d x2)), .second, .val (.double (FP.i2d x3)), .second, .val (.double (FP.i2d x4)), .second, .val (.ref b3)] []))
  refine own_go (fun _ kk_ => XS.aload X10.here hx rfl (hb hby at_82) rfl rfl kk_) ?_
  show own_G p e below s _ _ _ (T10.setTop (mkF m 84 #[.val (.int x0), .val (.int x1), .val (.int x2), .val (.int x3), .val (.int x4), .val (.int x5), .val (.double LO), .second, .val (.double HI), .second, .val (.double (FP.i2d x2)), .second, .val (.double (FP.i2d x3)), .second, .val (.double (FP.i2d x4)), .second, .val (.ref b3)] [(.ref b3)]))
  have Vc11 := V10
  obtain ⟨cl11, Ar11, q11, S11, M11, H11, G11⟩ := Vc11
  refine own_go (X10.arraylength hx (cell := cl11) (by rw [e10]; exact Ar11.1) (State.isArrayOf_alike hZ.alike Ar11.2.1) (g := (mkF m 84 #[.val (.int x0), .val (.int x1), .val (.int x2), .val (.int x3), .val (.int x4), .val (.int x5), .val (.double LO), .second, .val (.double HI), .second, .val (.double (FP.i2d x2)), .second, .val (.double (FP.i2d x3)), .second, .val (.double (FP.i2d x4)), .second, .val (.ref b3)] [(.ref b3)])) rfl (rest := []) rfl (hb hby at_84)) ?_
  rw [len_of S11 M11]
  show own_G p e below s _ _ _ (T10.setTop (mkF m 85 #[.val (.int x0), .val (.int x1), .val (.int x2), .val (.int x3), .val (.int x4), .val (.int x5), .val (.double LO), .second, .val (.double HI), .second, .val (.double (FP.i2d x2)), .second, .val (.double (FP.i2d x3)), .second, .val (.double (FP.i2d x4)), .second, .val (.ref b3)] [(.int (3 : Int32))]))
  refine own_go (fun _ kk_ => XS.iconst X10.here hx rfl (hb hby at_85) kk_) ?_
  show own_G p e below s _ _ _ (T10.setTop (mkF m 86 #[.val (.int x0), .val (.int x1), .val (.int x2), .val (.int x3), .val (.int x4), .val (.int x5), .val (.double LO), .second, .val (.double HI), .second, .val (.double (FP.i2d x2)), .second, .val (.double (FP.i2d x3)), .second, .val (.double (FP.i2d x4)), .second, .val (.ref b3)] [(.int (3 : Int32)), (.int (3 : Int32))]))
  refine own_ic_neN X10 hx (pc := 86) (hb hby at_86) (by decide) ?_
  show own_G p e below s _ _ _ (T10.setTop (mkF m 89 #[.val (.int x0), .val (.int x1), .val (.int x2), .val (.int x3), .val (.int x4), .val (.int x5), .val (.double LO), .second, .val (.double HI), .second, .val (.double (FP.i2d x2)), .second, .val (.double (FP.i2d x3)), .second, .val (.double (FP.i2d x4)), .second, .val (.ref b3)] []))
  refine own_go (fun _ kk_ => XS.aload X10.here hx rfl (hb hby at_89) rfl rfl kk_) ?_
  show own_G p e below s _ _ _ (T10.setTop (mkF m 91 #[.val (.int x0), .val (.int x1), .val (.int x2), .val (.int x3), .val (.int x4), .val (.int x5), .val (.double LO), .second, .val (.double HI), .second, .val (.double (FP.i2d x2)), .second, .val (.double (FP.i2d x3)), .second, .val (.double (FP.i2d x4)), .second, .val (.ref b3)] [(.ref b3)]))
  refine own_go (fun _ kk_ => XS.iconst X10.here hx rfl (hb hby at_91) kk_) ?_
  show own_G p e below s _ _ _ (T10.setTop (mkF m 92 #[.val (.int x0), .val (.int x1), .val (.int x2), .val (.int x3), .val (.int x4), .val (.int x5), .val (.double LO), .second, .val (.double HI), .second, .val (.double (FP.i2d x2)), .second, .val (.double (FP.i2d x3)), .second, .val (.double (FP.i2d x4)), .second, .val (.ref b3)] [(.int (0 : Int32)), (.ref b3)]))
  have Vc12 := V10
  obtain ⟨cl12, Ar12, q12, S12, M12, H12, G12⟩ := Vc12
  have hin12 := inb_of (j := (0 : Int32)) S12 ⟨(by decide), (by decide)⟩
  have hat12 := H12.at hin12 (v := (.double (own_cl (FP.i2d x2) LO HI))) rfl
  refine own_go (X10.daload hx (j := (0 : Int32)) (v := (.double (own_cl (FP.i2d x2) LO HI))) (by rw [e10]; exact Ar12.1) (State.isArrayOf_alike hZ.alike Ar12.2.1) Ar12.2.2 hin12 hat12 (g := (mkF m 92 #[.val (.int x0), .val (.int x1), .val (.int x2), .val (.int x3), .val (.int x4), .val (.int x5), .val (.double LO), .second, .val (.double HI), .second, .val (.double (FP.i2d x2)), .second, .val (.double (FP.i2d x3)), .second, .val (.double (FP.i2d x4)), .second, .val (.ref b3)] [(.int (0 : Int32)), (.ref b3)])) rfl rfl (hb hby at_92)) ?_
  show own_G p e below s _ _ _ (T10.setTop (mkF m 93 #[.val (.int x0), .val (.int x1), .val (.int x2), .val (.int x3), .val (.int x4), .val (.int x5), .val (.double LO), .second, .val (.double HI), .second, .val (.double (FP.i2d x2)), .second, .val (.double (FP.i2d x3)), .second, .val (.double (FP.i2d x4)), .second, .val (.ref b3)] [(.double (own_cl (FP.i2d x2) LO HI))]))
  refine own_go (fun _ kk_ => XS.dload X10.here hx rfl (hb hby at_93) rfl kk_) ?_
  show own_G p e below s _ _ _ (T10.setTop (mkF m 95 #[.val (.int x0), .val (.int x1), .val (.int x2), .val (.int x3), .val (.int x4), .val (.int x5), .val (.double LO), .second, .val (.double HI), .second, .val (.double (FP.i2d x2)), .second, .val (.double (FP.i2d x3)), .second, .val (.double (FP.i2d x4)), .second, .val (.ref b3)] [(.double (FP.i2d x2)), (.double (own_cl (FP.i2d x2) LO HI))]))
  refine own_go (fun _ kk_ => XS.dload X10.here hx rfl (hb hby at_95) rfl kk_) ?_
  show own_G p e below s _ _ _ (T10.setTop (mkF m 97 #[.val (.int x0), .val (.int x1), .val (.int x2), .val (.int x3), .val (.int x4), .val (.int x5), .val (.double LO), .second, .val (.double HI), .second, .val (.double (FP.i2d x2)), .second, .val (.double (FP.i2d x3)), .second, .val (.double (FP.i2d x4)), .second, .val (.ref b3)] [(.double LO), (.double (FP.i2d x2)), (.double (own_cl (FP.i2d x2) LO HI))]))
  refine own_go (fun _ kk_ => XS.dload X10.here hx rfl (hb hby at_97) rfl kk_) ?_
  show own_G p e below s _ _ _ (T10.setTop (mkF m 99 #[.val (.int x0), .val (.int x1), .val (.int x2), .val (.int x3), .val (.int x4), .val (.int x5), .val (.double LO), .second, .val (.double HI), .second, .val (.double (FP.i2d x2)), .second, .val (.double (FP.i2d x3)), .second, .val (.double (FP.i2d x4)), .second, .val (.ref b3)] [(.double HI), (.double LO), (.double (FP.i2d x2)), (.double (own_cl (FP.i2d x2) LO HI))]))
  obtain ⟨_, _, ⟨T13, L13, k13, n13⟩, -, X13, ⟨Lc13, hQ13, l13, y13, z13⟩, st13⟩ := Jvm.LawKit.callS X10 hx (y := (⟨"com/example/sixteenfold/sixteenfold/resizing/RowResizerClampPinLaw", "ref", "(DDD)D"⟩ : MethodName)) hown (mvT hZ (hw _ (List.mem_of_getElem? (i := 20) rfl))) (mvT hZ (hw _ (List.mem_of_getElem? (i := 21) rfl))) (mvT hZ (hw _ (List.mem_of_getElem? (i := 22) rfl))) (mvT hZ (hw _ (List.mem_of_getElem? (i := 23) rfl))) (by decide) (backOf (W := 2) (rmRef l Z a0 hw [] (FP.i2d x2) LO HI h10 n0 Z10) hZ (hw _ (List.mem_of_getElem? (i := 23) rfl)) (hw _ (List.mem_of_getElem? (i := 22) rfl)) (by decide) (by decide)) (g := (mkF m 99 #[.val (.int x0), .val (.int x1), .val (.int x2), .val (.int x3), .val (.int x4), .val (.int x5), .val (.double LO), .second, .val (.double HI), .second, .val (.double (FP.i2d x2)), .second, .val (.double (FP.i2d x3)), .second, .val (.double (FP.i2d x4)), .second, .val (.ref b3)] [(.double HI), (.double LO), (.double (FP.i2d x2)), (.double (own_cl (FP.i2d x2) LO HI))])) rfl (by rw [hml]; rfl) (argsL := [(.double (FP.i2d x2)), (.double LO), (.double HI)]) (rest := [(.double (own_cl (FP.i2d x2) LO HI))]) (lenOf pd_3 rfl) rfl (by show 2 * 0 + _ ≤ _; exact Nat.le_of_eq rfl) (hb hby at_99) (fun _ _ => ⟨rfl, e10, (by decide : 1 + 0 ≤ _), (by decide : 3 + 0 ≤ _)⟩)
  dsimp only [Pt.U, Pt.locs, Pt.cells, Pt.slots] at X13 l13 y13 z13 st13 hQ13
  subst l13 y13 z13
  obtain ⟨rfl, N13q, e13⟩ := hQ13
  have N13 := Fr.app N10 N13q
  refine own_go st13 ?_
  show own_G p e below s _ _ _ (T13.setTop (mkF m 102 #[.val (.int x0), .val (.int x1), .val (.int x2), .val (.int x3), .val (.int x4), .val (.int x5), .val (.double LO), .second, .val (.double HI), .second, .val (.double (FP.i2d x2)), .second, .val (.double (FP.i2d x3)), .second, .val (.double (FP.i2d x4)), .second, .val (.ref b3)] [(.double (own_rf (FP.i2d x2) LO HI)), (.double (own_cl (FP.i2d x2) LO HI))]))
  refine own_go (fun _ kk_ => XS.dcmpS X13.here hx rfl (hb hby at_102) rfl rfl kk_) ?_
  show own_G p e below s _ _ _ (T13.setTop (mkF m 103 #[.val (.int x0), .val (.int x1), .val (.int x2), .val (.int x3), .val (.int x4), .val (.int x5), .val (.double LO), .second, .val (.double HI), .second, .val (.double (FP.i2d x2)), .second, .val (.double (FP.i2d x3)), .second, .val (.double (FP.i2d x4)), .second, .val (.ref b3)] [(.int (cmpValue (FP.dcmp (own_cl (FP.i2d x2) LO HI) (own_rf (FP.i2d x2) LO HI)) .l))]))
  refine own_if_neN X13 hx (pc := 103) (hb hby at_103) (own_eq (own_Ni _) nLO nHI hLH) ?_
  show own_G p e below s _ _ _ (T13.setTop (mkF m 106 #[.val (.int x0), .val (.int x1), .val (.int x2), .val (.int x3), .val (.int x4), .val (.int x5), .val (.double LO), .second, .val (.double HI), .second, .val (.double (FP.i2d x2)), .second, .val (.double (FP.i2d x3)), .second, .val (.double (FP.i2d x4)), .second, .val (.ref b3)] []))
  refine own_go (fun _ kk_ => XS.aload X13.here hx rfl (hb hby at_106) rfl rfl kk_) ?_
  show own_G p e below s _ _ _ (T13.setTop (mkF m 108 #[.val (.int x0), .val (.int x1), .val (.int x2), .val (.int x3), .val (.int x4), .val (.int x5), .val (.double LO), .second, .val (.double HI), .second, .val (.double (FP.i2d x2)), .second, .val (.double (FP.i2d x3)), .second, .val (.double (FP.i2d x4)), .second, .val (.ref b3)] [(.ref b3)]))
  refine own_go (fun _ kk_ => XS.iconst X13.here hx rfl (hb hby at_108) kk_) ?_
  show own_G p e below s _ _ _ (T13.setTop (mkF m 109 #[.val (.int x0), .val (.int x1), .val (.int x2), .val (.int x3), .val (.int x4), .val (.int x5), .val (.double LO), .second, .val (.double HI), .second, .val (.double (FP.i2d x2)), .second, .val (.double (FP.i2d x3)), .second, .val (.double (FP.i2d x4)), .second, .val (.ref b3)] [(.int (1 : Int32)), (.ref b3)]))
  have Vc14 := V10
  obtain ⟨cl14, Ar14, q14, S14, M14, H14, G14⟩ := Vc14
  have hin14 := inb_of (j := (1 : Int32)) S14 ⟨(by decide), (by decide)⟩
  have hat14 := H14.at hin14 (v := (.double (own_cl (FP.i2d x3) LO HI))) rfl
  refine own_go (X13.daload hx (j := (1 : Int32)) (v := (.double (own_cl (FP.i2d x3) LO HI))) (by rw [e13]; exact Ar14.1) (State.isArrayOf_alike hZ.alike Ar14.2.1) Ar14.2.2 hin14 hat14 (g := (mkF m 109 #[.val (.int x0), .val (.int x1), .val (.int x2), .val (.int x3), .val (.int x4), .val (.int x5), .val (.double LO), .second, .val (.double HI), .second, .val (.double (FP.i2d x2)), .second, .val (.double (FP.i2d x3)), .second, .val (.double (FP.i2d x4)), .second, .val (.ref b3)] [(.int (1 : Int32)), (.ref b3)])) rfl rfl (hb hby at_109)) ?_
  show own_G p e below s _ _ _ (T13.setTop (mkF m 110 #[.val (.int x0), .val (.int x1), .val (.int x2), .val (.int x3), .val (.int x4), .val (.int x5), .val (.double LO), .second, .val (.double HI), .second, .val (.double (FP.i2d x2)), .second, .val (.double (FP.i2d x3)), .second, .val (.double (FP.i2d x4)), .second, .val (.ref b3)] [(.double (own_cl (FP.i2d x3) LO HI))]))
  refine own_go (fun _ kk_ => XS.dload X13.here hx rfl (hb hby at_110) rfl kk_) ?_
  show own_G p e below s _ _ _ (T13.setTop (mkF m 112 #[.val (.int x0), .val (.int x1), .val (.int x2), .val (.int x3), .val (.int x4), .val (.int x5), .val (.double LO), .second, .val (.double HI), .second, .val (.double (FP.i2d x2)), .second, .val (.double (FP.i2d x3)), .second, .val (.double (FP.i2d x4)), .second, .val (.ref b3)] [(.double (FP.i2d x3)), (.double (own_cl (FP.i2d x3) LO HI))]))
  refine own_go (fun _ kk_ => XS.dload X13.here hx rfl (hb hby at_112) rfl kk_) ?_
  show own_G p e below s _ _ _ (T13.setTop (mkF m 114 #[.val (.int x0), .val (.int x1), .val (.int x2), .val (.int x3), .val (.int x4), .val (.int x5), .val (.double LO), .second, .val (.double HI), .second, .val (.double (FP.i2d x2)), .second, .val (.double (FP.i2d x3)), .second, .val (.double (FP.i2d x4)), .second, .val (.ref b3)] [(.double LO), (.double (FP.i2d x3)), (.double (own_cl (FP.i2d x3) LO HI))]))
  refine own_go (fun _ kk_ => XS.dload X13.here hx rfl (hb hby at_114) rfl kk_) ?_
  show own_G p e below s _ _ _ (T13.setTop (mkF m 116 #[.val (.int x0), .val (.int x1), .val (.int x2), .val (.int x3), .val (.int x4), .val (.int x5), .val (.double LO), .second, .val (.double HI), .second, .val (.double (FP.i2d x2)), .second, .val (.double (FP.i2d x3)), .second, .val (.double (FP.i2d x4)), .second, .val (.ref b3)] [(.double HI), (.double LO), (.double (FP.i2d x3)), (.double (own_cl (FP.i2d x3) LO HI))]))
  obtain ⟨_, _, ⟨T15, L15, k15, n15⟩, -, X15, ⟨Lc15, hQ15, l15, y15, z15⟩, st15⟩ := Jvm.LawKit.callS X13 hx (y := (⟨"com/example/sixteenfold/sixteenfold/resizing/RowResizerClampPinLaw", "ref", "(DDD)D"⟩ : MethodName)) hown (mvT hZ (hw _ (List.mem_of_getElem? (i := 20) rfl))) (mvT hZ (hw _ (List.mem_of_getElem? (i := 21) rfl))) (mvT hZ (hw _ (List.mem_of_getElem? (i := 22) rfl))) (mvT hZ (hw _ (List.mem_of_getElem? (i := 23) rfl))) (by decide) (backOf (W := 2) (rmRef l Z a0 hw [] (FP.i2d x3) LO HI h10 n0 Z10) hZ (hw _ (List.mem_of_getElem? (i := 23) rfl)) (hw _ (List.mem_of_getElem? (i := 22) rfl)) (by decide) (by decide)) (g := (mkF m 116 #[.val (.int x0), .val (.int x1), .val (.int x2), .val (.int x3), .val (.int x4), .val (.int x5), .val (.double LO), .second, .val (.double HI), .second, .val (.double (FP.i2d x2)), .second, .val (.double (FP.i2d x3)), .second, .val (.double (FP.i2d x4)), .second, .val (.ref b3)] [(.double HI), (.double LO), (.double (FP.i2d x3)), (.double (own_cl (FP.i2d x3) LO HI))])) rfl (by rw [hml]; rfl) (argsL := [(.double (FP.i2d x3)), (.double LO), (.double HI)]) (rest := [(.double (own_cl (FP.i2d x3) LO HI))]) (lenOf pd_3 rfl) rfl (by show 2 * 0 + _ ≤ _; exact Nat.le_of_eq rfl) (hb hby at_116) (fun _ _ => ⟨rfl, e13, (by decide : 1 + 0 ≤ _), (by decide : 3 + 0 ≤ _)⟩)
  dsimp only [Pt.U, Pt.locs, Pt.cells, Pt.slots] at X15 l15 y15 z15 st15 hQ15
  subst l15 y15 z15
  obtain ⟨rfl, N15q, e15⟩ := hQ15
  have N15 := Fr.app N13 N15q
  refine own_go st15 ?_
  show own_G p e below s _ _ _ (T15.setTop (mkF m 119 #[.val (.int x0), .val (.int x1), .val (.int x2), .val (.int x3), .val (.int x4), .val (.int x5), .val (.double LO), .second, .val (.double HI), .second, .val (.double (FP.i2d x2)), .second, .val (.double (FP.i2d x3)), .second, .val (.double (FP.i2d x4)), .second, .val (.ref b3)] [(.double (own_rf (FP.i2d x3) LO HI)), (.double (own_cl (FP.i2d x3) LO HI))]))
  refine own_go (fun _ kk_ => XS.dcmpS X15.here hx rfl (hb hby at_119) rfl rfl kk_) ?_
  show own_G p e below s _ _ _ (T15.setTop (mkF m 120 #[.val (.int x0), .val (.int x1), .val (.int x2), .val (.int x3), .val (.int x4), .val (.int x5), .val (.double LO), .second, .val (.double HI), .second, .val (.double (FP.i2d x2)), .second, .val (.double (FP.i2d x3)), .second, .val (.double (FP.i2d x4)), .second, .val (.ref b3)] [(.int (cmpValue (FP.dcmp (own_cl (FP.i2d x3) LO HI) (own_rf (FP.i2d x3) LO HI)) .l))]))
  refine own_if_neN X15 hx (pc := 120) (hb hby at_120) (own_eq (own_Ni _) nLO nHI hLH) ?_
  show own_G p e below s _ _ _ (T15.setTop (mkF m 123 #[.val (.int x0), .val (.int x1), .val (.int x2), .val (.int x3), .val (.int x4), .val (.int x5), .val (.double LO), .second, .val (.double HI), .second, .val (.double (FP.i2d x2)), .second, .val (.double (FP.i2d x3)), .second, .val (.double (FP.i2d x4)), .second, .val (.ref b3)] []))
  refine own_go (fun _ kk_ => XS.aload X15.here hx rfl (hb hby at_123) rfl rfl kk_) ?_
  show own_G p e below s _ _ _ (T15.setTop (mkF m 125 #[.val (.int x0), .val (.int x1), .val (.int x2), .val (.int x3), .val (.int x4), .val (.int x5), .val (.double LO), .second, .val (.double HI), .second, .val (.double (FP.i2d x2)), .second, .val (.double (FP.i2d x3)), .second, .val (.double (FP.i2d x4)), .second, .val (.ref b3)] [(.ref b3)]))
  refine own_go (fun _ kk_ => XS.iconst X15.here hx rfl (hb hby at_125) kk_) ?_
  show own_G p e below s _ _ _ (T15.setTop (mkF m 126 #[.val (.int x0), .val (.int x1), .val (.int x2), .val (.int x3), .val (.int x4), .val (.int x5), .val (.double LO), .second, .val (.double HI), .second, .val (.double (FP.i2d x2)), .second, .val (.double (FP.i2d x3)), .second, .val (.double (FP.i2d x4)), .second, .val (.ref b3)] [(.int (2 : Int32)), (.ref b3)]))
  have Vc16 := V10
  obtain ⟨cl16, Ar16, q16, S16, M16, H16, G16⟩ := Vc16
  have hin16 := inb_of (j := (2 : Int32)) S16 ⟨(by decide), (by decide)⟩
  have hat16 := H16.at hin16 (v := (.double (own_cl (FP.i2d x4) LO HI))) rfl
  refine own_go (X15.daload hx (j := (2 : Int32)) (v := (.double (own_cl (FP.i2d x4) LO HI))) (by rw [e15]; exact Ar16.1) (State.isArrayOf_alike hZ.alike Ar16.2.1) Ar16.2.2 hin16 hat16 (g := (mkF m 126 #[.val (.int x0), .val (.int x1), .val (.int x2), .val (.int x3), .val (.int x4), .val (.int x5), .val (.double LO), .second, .val (.double HI), .second, .val (.double (FP.i2d x2)), .second, .val (.double (FP.i2d x3)), .second, .val (.double (FP.i2d x4)), .second, .val (.ref b3)] [(.int (2 : Int32)), (.ref b3)])) rfl rfl (hb hby at_126)) ?_
  show own_G p e below s _ _ _ (T15.setTop (mkF m 127 #[.val (.int x0), .val (.int x1), .val (.int x2), .val (.int x3), .val (.int x4), .val (.int x5), .val (.double LO), .second, .val (.double HI), .second, .val (.double (FP.i2d x2)), .second, .val (.double (FP.i2d x3)), .second, .val (.double (FP.i2d x4)), .second, .val (.ref b3)] [(.double (own_cl (FP.i2d x4) LO HI))]))
  refine own_go (fun _ kk_ => XS.dload X15.here hx rfl (hb hby at_127) rfl kk_) ?_
  show own_G p e below s _ _ _ (T15.setTop (mkF m 129 #[.val (.int x0), .val (.int x1), .val (.int x2), .val (.int x3), .val (.int x4), .val (.int x5), .val (.double LO), .second, .val (.double HI), .second, .val (.double (FP.i2d x2)), .second, .val (.double (FP.i2d x3)), .second, .val (.double (FP.i2d x4)), .second, .val (.ref b3)] [(.double (FP.i2d x4)), (.double (own_cl (FP.i2d x4) LO HI))]))
  refine own_go (fun _ kk_ => XS.dload X15.here hx rfl (hb hby at_129) rfl kk_) ?_
  show own_G p e below s _ _ _ (T15.setTop (mkF m 131 #[.val (.int x0), .val (.int x1), .val (.int x2), .val (.int x3), .val (.int x4), .val (.int x5), .val (.double LO), .second, .val (.double HI), .second, .val (.double (FP.i2d x2)), .second, .val (.double (FP.i2d x3)), .second, .val (.double (FP.i2d x4)), .second, .val (.ref b3)] [(.double LO), (.double (FP.i2d x4)), (.double (own_cl (FP.i2d x4) LO HI))]))
  refine own_go (fun _ kk_ => XS.dload X15.here hx rfl (hb hby at_131) rfl kk_) ?_
  show own_G p e below s _ _ _ (T15.setTop (mkF m 133 #[.val (.int x0), .val (.int x1), .val (.int x2), .val (.int x3), .val (.int x4), .val (.int x5), .val (.double LO), .second, .val (.double HI), .second, .val (.double (FP.i2d x2)), .second, .val (.double (FP.i2d x3)), .second, .val (.double (FP.i2d x4)), .second, .val (.ref b3)] [(.double HI), (.double LO), (.double (FP.i2d x4)), (.double (own_cl (FP.i2d x4) LO HI))]))
  obtain ⟨_, _, ⟨T17, L17, k17, n17⟩, -, X17, ⟨Lc17, hQ17, l17, y17, z17⟩, st17⟩ := Jvm.LawKit.callS X15 hx (y := (⟨"com/example/sixteenfold/sixteenfold/resizing/RowResizerClampPinLaw", "ref", "(DDD)D"⟩ : MethodName)) hown (mvT hZ (hw _ (List.mem_of_getElem? (i := 20) rfl))) (mvT hZ (hw _ (List.mem_of_getElem? (i := 21) rfl))) (mvT hZ (hw _ (List.mem_of_getElem? (i := 22) rfl))) (mvT hZ (hw _ (List.mem_of_getElem? (i := 23) rfl))) (by decide) (backOf (W := 2) (rmRef l Z a0 hw [] (FP.i2d x4) LO HI h10 n0 Z10) hZ (hw _ (List.mem_of_getElem? (i := 23) rfl)) (hw _ (List.mem_of_getElem? (i := 22) rfl)) (by decide) (by decide)) (g := (mkF m 133 #[.val (.int x0), .val (.int x1), .val (.int x2), .val (.int x3), .val (.int x4), .val (.int x5), .val (.double LO), .second, .val (.double HI), .second, .val (.double (FP.i2d x2)), .second, .val (.double (FP.i2d x3)), .second, .val (.double (FP.i2d x4)), .second, .val (.ref b3)] [(.double HI), (.double LO), (.double (FP.i2d x4)), (.double (own_cl (FP.i2d x4) LO HI))])) rfl (by rw [hml]; rfl) (argsL := [(.double (FP.i2d x4)), (.double LO), (.double HI)]) (rest := [(.double (own_cl (FP.i2d x4) LO HI))]) (lenOf pd_3 rfl) rfl (by show 2 * 0 + _ ≤ _; exact Nat.le_of_eq rfl) (hb hby at_133) (fun _ _ => ⟨rfl, e15, (by decide : 1 + 0 ≤ _), (by decide : 3 + 0 ≤ _)⟩)
  dsimp only [Pt.U, Pt.locs, Pt.cells, Pt.slots] at X17 l17 y17 z17 st17 hQ17
  subst l17 y17 z17
  obtain ⟨rfl, N17q, e17⟩ := hQ17
  have N17 := Fr.app N15 N17q
  refine own_go st17 ?_
  show own_G p e below s _ _ _ (T17.setTop (mkF m 136 #[.val (.int x0), .val (.int x1), .val (.int x2), .val (.int x3), .val (.int x4), .val (.int x5), .val (.double LO), .second, .val (.double HI), .second, .val (.double (FP.i2d x2)), .second, .val (.double (FP.i2d x3)), .second, .val (.double (FP.i2d x4)), .second, .val (.ref b3)] [(.double (own_rf (FP.i2d x4) LO HI)), (.double (own_cl (FP.i2d x4) LO HI))]))
  refine own_go (fun _ kk_ => XS.dcmpS X17.here hx rfl (hb hby at_136) rfl rfl kk_) ?_
  show own_G p e below s _ _ _ (T17.setTop (mkF m 137 #[.val (.int x0), .val (.int x1), .val (.int x2), .val (.int x3), .val (.int x4), .val (.int x5), .val (.double LO), .second, .val (.double HI), .second, .val (.double (FP.i2d x2)), .second, .val (.double (FP.i2d x3)), .second, .val (.double (FP.i2d x4)), .second, .val (.ref b3)] [(.int (cmpValue (FP.dcmp (own_cl (FP.i2d x4) LO HI) (own_rf (FP.i2d x4) LO HI)) .l))]))
  refine own_if_neN X17 hx (pc := 137) (hb hby at_137) (own_eq (own_Ni _) nLO nHI hLH) ?_
  show own_G p e below s _ _ _ (T17.setTop (mkF m 140 #[.val (.int x0), .val (.int x1), .val (.int x2), .val (.int x3), .val (.int x4), .val (.int x5), .val (.double LO), .second, .val (.double HI), .second, .val (.double (FP.i2d x2)), .second, .val (.double (FP.i2d x3)), .second, .val (.double (FP.i2d x4)), .second, .val (.ref b3)] []))
  refine own_go (fun _ kk_ => XS.iconst X17.here hx rfl (hb hby at_140) kk_) ?_
  show own_G p e below s _ _ _ (T17.setTop (mkF m 141 #[.val (.int x0), .val (.int x1), .val (.int x2), .val (.int x3), .val (.int x4), .val (.int x5), .val (.double LO), .second, .val (.double HI), .second, .val (.double (FP.i2d x2)), .second, .val (.double (FP.i2d x3)), .second, .val (.double (FP.i2d x4)), .second, .val (.ref b3)] [(.int (1 : Int32))]))
  refine own_go (fun _ kk_ => XS.goto X17.here hx rfl (pc0 := 141) (pc' := 145) rfl (hb hby at_141) (by decide) (by decide) kk_) ?_
  show own_G p e below s _ _ _ (T17.setTop (mkF m 145 #[.val (.int x0), .val (.int x1), .val (.int x2), .val (.int x3), .val (.int x4), .val (.int x5), .val (.double LO), .second, .val (.double HI), .second, .val (.double (FP.i2d x2)), .second, .val (.double (FP.i2d x3)), .second, .val (.double (FP.i2d x4)), .second, .val (.ref b3)] [(.int (1 : Int32))]))
  exact own_retN (t := .boolean) (ht := by simp) X17 hx Bd.returns (BodyLoose.notSynchronized Bd) (hb hby at_145) e17 ⟨rfl, N17⟩ (by decide) (by decide)
set_option maxRecDepth 65536 in
set_option maxHeartbeats 40000000 in
theorem comes_1 {Post : Tables → Env → Array Value → State → Outcome → State → Prop} (hpost : ∀ tb e args s v u, (limb_1_1.after args s (.returned v) u = true ∧ limb_1_2.after args s (.returned v) u = true ∧ True) → FrameEnd s (.returned v) u (Jvm.fieldLocs frame_1_writes args s ++ Jvm.arrayLocs frame_1_arrays args s ++ Jvm.staticLocs frame_1_statics s) 16 128 → Post tb e args s (.returned v) u) :
    ArmFor flags0 classFile x code maxLocals ret World_1 tables_1 room_1 Calls_1 rest_1 Pre_1 Post := by
  intro l hfl _ _ p e ha hc hk s m args below hf hA hF happ hP
  obtain ⟨hcalls, hrest, hpre⟩ := hP
  obtain ⟨-, -, -, hnamed, -, -, -, hat⟩ := (Spec.applies_iff hf).mp happ
  obtain ⟨hg, hn⟩ := and_e (Cond.before_iff.mp (show (Jvm.Cond.and given_1 narrow_1).before args s = true from hpre))
  obtain ⟨hct, hr0⟩ := and_e hg
  obtain ⟨hv0, hr1⟩ := and_e hr0
  obtain ⟨hv1, hr2⟩ := and_e hr1
  obtain ⟨hv2, hr3⟩ := and_e hr2
  obtain ⟨hv3, hr4⟩ := and_e hr3
  obtain ⟨hv4, hr5⟩ := and_e hr4
  obtain ⟨w0, w1, w2, w3, w4, w5, rfl⟩ : ∃ w0 w1 w2 w3 w4 w5 : Value, args = #[w0, w1, w2, w3, w4, w5] := by
    have hs : args.size = 6 := by simpa [Cond.value, given_1] using hct
    obtain ⟨L⟩ := args
    match L, hs with
    | [w0, w1, w2, w3, w4, w5], _ => exact ⟨w0, w1, w2, w3, w4, w5, rfl⟩
  have hw := fun d (hd : d ∈ tables_1) => atoms_spec (ws := Jvm.Cond.code x code maxLocals ret :: tables_1) hat d (List.mem_cons_of_mem _ hd)
  have hfit : Fit s := fun {y c} hc i hi => by
    obtain ⟨ha, rfl⟩ := Array.getElem?_eq_some_iff.mp hc
    have q := List.all_eq_true.mp ((Array.all_eq_true_iff_forall_mem.mp hF) _ (Array.getElem_mem ha)) i (List.mem_range.mpr hi)
    simpa [Array.getElem?_eq_getElem hi] using q
  obtain ⟨i0, ei0⟩ := is_v hv0
  obtain rfl : w0 = (.int i0) := Option.some.inj ei0
  obtain ⟨i1, ei1⟩ := is_v hv1
  obtain rfl : w1 = (.int i1) := Option.some.inj ei1
  obtain ⟨i2, ei2⟩ := is_v hv2
  obtain rfl : w2 = (.int i2) := Option.some.inj ei2
  obtain ⟨i3, ei3⟩ := is_v hv3
  obtain rfl : w3 = (.int i3) := Option.some.inj ei3
  obtain ⟨i4, ei4⟩ := is_v hv4
  obtain rfl : w4 = (.int i4) := Option.some.inj ei4
  obtain ⟨i5, ei5⟩ := is_v hr5
  obtain rfl : w5 = (.int i5) := Option.some.inj ei5
  obtain ⟨n, o, h1, h2, h3, _, L, rfl, ⟨rfl, N⟩, hq⟩ := rm0 l s _ hw tables_1 i0 i1 i2 i3 i4 i5 s.heap s.heap.size (Nat.le_refl _)  p e ha hc hk s m _ below hf ((Spec.applies_iff_loose hf).mp happ).1 ⟨rfl, State.Warmed39.refl s, rfl⟩ trivial
  refine ⟨n, _, h1, h2, h3, hpost _ _ _ _ _ _ ⟨Cond.after_iff.mpr rfl, Cond.after_iff.mpr (eq_i res_at (Term.int_eval (1)) rfl), trivial⟩ ⟨hq.1, hq.2.1, (hq.2.2.sift fun y hy => Or.inr (N y hy)).mono (by decide) (by decide)⟩⟩
theorem main_1_1 : Claimed_1_1 := comes_1 fun _ _ _ _ _ _ h hF => ⟨h.1, hF⟩
theorem main_1_2 : Claimed_1_2 := comes_1 fun _ _ _ _ _ _ h hF => ⟨h.2.1, hF⟩
end Jvm.Pilot.@@N@@
namespace Jvm.Pilot.@@N@@
open Jvm Jvm.ClassFile Sem Op Lib Jvm.Free Jvm.Stand Jvm.Pilot.@@N@@.Jvm.D
/-! MADE BY PROGRAM (witnessworld.py) out of the Statement's table words and the real class files: 12 classes; the members and pool entries that the words name. The judged class is class 1, her method 2. -/
namespace start1
open Jvm.ClassFile
def u (s : String) : CpInfo := .utf8 (stringToUtf16 s)
/-- a pool by its gaps: so many unusable entries, then the entry; so many at the end -/
def gap : Nat → List CpInfo → List CpInfo
  | 0, r => r
  | n + 1, r => .unusable :: gap n r
def poolList (es : List (Nat × CpInfo)) (last : Nat) : List CpInfo := es.foldr (fun e r => gap e.1 (e.2 :: r)) (gap last [])
def pool (es : List (Nat × CpInfo)) (last : Nat) : Array CpInfo := ⟨poolList es last⟩
def fileOf (pool : Array CpInfo) (this : Nat) (attrs : Array Attribute := #[]) (ms : Array MethodInfo := #[]) (fl : Nat := 33) (sup : Nat := 0) (ifs : Array Nat := #[]) (fds : Array FieldInfo := #[]) : ClassFile where
  minorVersion := 0
  majorVersion := 65
  constantPool := pool
  accessFlags := fl
  thisClass := this
  superClass := sup
  interfaces := ifs
  fields := fds
  methods := ms
  attributes := attrs
def plain (name : String) (sup : Option ClassId) : Class where
  name := name
  kind := .ordinary
  loader := none
  accessFlags := 33
  super := sup
  interfaces := #[]
  cf := none
  fields := #[]
  methods := #[]
  instanceTypes := #[]
  staticTypes := #[]
  resolved := #[]
  callSites := []
  init := .initialized
  statics := none
  mirror := none

def pool0 : Array CpInfo := pool [(5, u "<init>"), (0, u "()V"), (1, .class_ 10), (1, u "java/lang/Object")] 113

def k0m0 : Method := { name := "<init>", desc := "()V", sig := { parameters := [], returnType := none }, accessFlags := 1, code := none }
/-- java/lang/Object -/
def k0 : Class := { plain "java/lang/Object" none with
  accessFlags := 33
  interfaces := #[]
  cf := some (fileOf pool0 8 #[] #[{ accessFlags := 1, nameIndex := 5, descriptorIndex := 6, attributes := #[] }] 33 0 #[] #[])
  fields := #[]
  methods := #[k0m0]
  instanceTypes := #[]
  staticTypes := #[]
  resolved := Array.replicate 124 none
  statics := none }

def pool1 : Array CpInfo := pool [(2, .class_ 4), (1, u "java/lang/Object"), (0, u "<init>"), (0, u "()V"), (0, .methodref 8 9), (0, .class_ 10), (0, .nameAndType 11 12), (0, u "java/lang/Math"), (0, u "min"), (0, u "(II)I"), (0, .methodref 8 14), (0, .nameAndType 15 12), (0, u "max"), (0, .double 18442240474082181120), (1, .double 9218868437227405312), (1, .methodref 21 22), (0, .class_ 23), (0, .nameAndType 24 25), (0, u "com/example/sixteenfold/sixteenfold/resizing/RowResizer"), (0, u "clamp"), (0, u "([DDD)V"), (0, .methodref 27 28), (0, .class_ 29), (0, .nameAndType 30 31), (0, u "com/example/sixteenfold/sixteenfold/resizing/RowResizerClampPinLaw"), (0, u "ref"), (0, u "(DDD)D"), (3, u "law"), (0, u "(IIIIII)Z")] 4

def k1m0 : Method := { name := "<init>", desc := "()V", sig := { parameters := [], returnType := none }, accessFlags := 1, code := none }
def k1c1 : Code := { maxStack := 4, maxLocals := 6, code := method_2_code, exceptionTable := #[], attributes := #[] }
def k1m1 : Method := { name := "ref", desc := "(DDD)D", sig := { parameters := [.double, .double, .double], returnType := some .double }, accessFlags := 10, code := some k1c1 }
def k1c2 : Code := { maxStack := 8, maxLocals := 17, code := code, exceptionTable := #[], attributes := #[] }
def k1m2 : Method := { name := "law", desc := "(IIIIII)Z", sig := { parameters := [.int, .int, .int, .int, .int, .int], returnType := some .boolean }, accessFlags := 9, code := some k1c2 }
/-- com/example/sixteenfold/sixteenfold/resizing/RowResizerClampPinLaw -/
def k1 : Class := { plain "com/example/sixteenfold/sixteenfold/resizing/RowResizerClampPinLaw" (some 0) with
  accessFlags := 49
  interfaces := #[]
  cf := some (fileOf pool1 27 #[] #[{ accessFlags := 1, nameIndex := 5, descriptorIndex := 6, attributes := #[] }, { accessFlags := 10, nameIndex := 30, descriptorIndex := 31, attributes := #[] }, { accessFlags := 9, nameIndex := 35, descriptorIndex := 36, attributes := #[] }] 49 2 #[] #[])
  fields := #[]
  methods := #[k1m0, k1m1, k1m2]
  instanceTypes := #[]
  staticTypes := #[]
  resolved := Array.replicate 41 none
  statics := none }

def pool2 : Array CpInfo := pool [(1, .class_ 2), (0, u "java/lang/Math"), (1, .class_ 6), (1, u "java/lang/Object"), (0, u "<init>"), (0, u "()V"), (43, u "(DD)D"), (45, .class_ 100), (1, u "java/lang/Math$RandomNumberGeneratorHolder"), (71, u "negativeZeroFloatBits"), (0, u "J"), (2, u "negativeZeroDoubleBits"), (21, u "max"), (2, u "min"), (43, u "$assertionsDisabled"), (0, u "Z"), (88, u "(II)I"), (2, u "twoToTheDoubleScaleDown"), (0, u "D"), (4, u "twoToTheDoubleScaleUp"), (9, u "E"), (3, u "PI"), (2, u "TAU"), (2, u "DEGREES_TO_RADIANS"), (0, u "RADIANS_TO_DEGREES")] 94

def k2m0 : Method := { name := "<init>", desc := "()V", sig := { parameters := [], returnType := none }, accessFlags := 2, code := none }
def k2c1 : Code := { maxStack := 2, maxLocals := 2, code := jdk_29_method_65_code, exceptionTable := #[], attributes := #[] }
def k2m1 : Method := { name := "max", desc := "(II)I", sig := { parameters := [.int, .int], returnType := some .int }, accessFlags := 9, code := some k2c1 }
def k2c2 : Code := { maxStack := 4, maxLocals := 4, code := jdk_29_method_68_code, exceptionTable := #[], attributes := #[] }
def k2m2 : Method := { name := "max", desc := "(DD)D", sig := { parameters := [.double, .double], returnType := some .double }, accessFlags := 9, code := some k2c2 }
def k2c3 : Code := { maxStack := 2, maxLocals := 2, code := jdk_29_method_69_code, exceptionTable := #[], attributes := #[] }
def k2m3 : Method := { name := "min", desc := "(II)I", sig := { parameters := [.int, .int], returnType := some .int }, accessFlags := 9, code := some k2c3 }
def k2c4 : Code := { maxStack := 4, maxLocals := 4, code := jdk_29_method_72_code, exceptionTable := #[], attributes := #[] }
def k2m4 : Method := { name := "min", desc := "(DD)D", sig := { parameters := [.double, .double], returnType := some .double }, accessFlags := 9, code := some k2c4 }
/-- java/lang/Math -/
def k2 : Class := { plain "java/lang/Math" (some 0) with
  accessFlags := 49
  interfaces := #[]
  cf := some (fileOf pool2 1 #[.nestMembers #[98]] #[{ accessFlags := 2, nameIndex := 7, descriptorIndex := 8, attributes := #[] }, { accessFlags := 9, nameIndex := 198, descriptorIndex := 335, attributes := #[] }, { accessFlags := 9, nameIndex := 198, descriptorIndex := 52, attributes := #[] }, { accessFlags := 9, nameIndex := 201, descriptorIndex := 335, attributes := #[] }, { accessFlags := 9, nameIndex := 201, descriptorIndex := 52, attributes := #[] }] 49 4 #[] #[{ accessFlags := 25, nameIndex := 354, descriptorIndex := 339, attributes := #[] }, { accessFlags := 25, nameIndex := 358, descriptorIndex := 339, attributes := #[] }, { accessFlags := 25, nameIndex := 361, descriptorIndex := 339, attributes := #[] }, { accessFlags := 26, nameIndex := 364, descriptorIndex := 339, attributes := #[] }, { accessFlags := 26, nameIndex := 365, descriptorIndex := 339, attributes := #[] }, { accessFlags := 26, nameIndex := 172, descriptorIndex := 173, attributes := #[] }, { accessFlags := 26, nameIndex := 176, descriptorIndex := 173, attributes := #[] }, { accessFlags := 8, nameIndex := 344, descriptorIndex := 339, attributes := #[] }, { accessFlags := 8, nameIndex := 338, descriptorIndex := 339, attributes := #[] }, { accessFlags := 4120, nameIndex := 245, descriptorIndex := 246, attributes := #[] }])
  fields := #[{ name := "E", type := .double, accessFlags := 25, slot := 0, constantValue := 0 }, { name := "PI", type := .double, accessFlags := 25, slot := 1, constantValue := 0 }, { name := "TAU", type := .double, accessFlags := 25, slot := 2, constantValue := 0 }, { name := "DEGREES_TO_RADIANS", type := .double, accessFlags := 26, slot := 3, constantValue := 0 }, { name := "RADIANS_TO_DEGREES", type := .double, accessFlags := 26, slot := 4, constantValue := 0 }, { name := "negativeZeroFloatBits", type := .long, accessFlags := 26, slot := 5, constantValue := 0 }, { name := "negativeZeroDoubleBits", type := .long, accessFlags := 26, slot := 6, constantValue := 0 }, { name := "twoToTheDoubleScaleUp", type := .double, accessFlags := 8, slot := 7, constantValue := 0 }, { name := "twoToTheDoubleScaleDown", type := .double, accessFlags := 8, slot := 8, constantValue := 0 }, { name := "$assertionsDisabled", type := .boolean, accessFlags := 4120, slot := 9, constantValue := 0 }]
  methods := #[k2m0, k2m1, k2m2, k2m3, k2m4]
  instanceTypes := #[]
  staticTypes := #[.double, .double, .double, .double, .double, .long, .long, .double, .double, .boolean]
  resolved := Array.replicate 460 none
  statics := none }

def pool3 : Array CpInfo := pool [(1, .methodref 2 3), (0, .class_ 4), (0, .nameAndType 5 6), (0, u "java/lang/Math"), (0, u "max"), (0, u "(DD)D"), (0, .methodref 2 8), (0, .nameAndType 9 6), (0, u "min"), (1, .class_ 13), (1, u "java/lang/Object"), (8, .class_ 24), (1, u "com/example/sixteenfold/sixteenfold/resizing/RowResizer"), (0, u "across"), (0, u "Lcom/example/sixteenfold/sixteenfold/resizing/AxisTaps;"), (2, u "down"), (3, u "[Lcom/example/sixteenfold/sixteenfold/resizing/RowResizer$Band;"), (4, u "bands"), (2, u "sourceWidth"), (0, u "I"), (2, u "sourceHeight"), (2, u "width"), (2, u "height"), (6, u "columnsFirst"), (0, u "Z"), (13, .class_ 74), (0, u "com/example/sixteenfold/sixteenfold/resizing/RowResizer$Worker"), (7, .class_ 83), (0, u "com/example/sixteenfold/sixteenfold/resizing/RowResizer$Shares"), (56, u "SMALLEST_SHARE"), (2, u "SAMPLES_PER_THREAD"), (0, u "J"), (0, u "clamp"), (0, u "([DDD)V"), (8, .class_ 156), (0, u "com/example/sixteenfold/sixteenfold/resizing/RowResizer$Source"), (0, .class_ 158), (0, u "com/example/sixteenfold/sixteenfold/resizing/RowResizer$Target"), (8, .class_ 168), (0, u "com/example/sixteenfold/sixteenfold/resizing/RowResizer$Band")] 31

def k3c0 : Code := { maxStack := 6, maxLocals := 6, code := prog_37_method_1_code, exceptionTable := #[], attributes := #[] }
def k3m0 : Method := { name := "clamp", desc := "([DDD)V", sig := { parameters := [(.array .double), .double, .double], returnType := none }, accessFlags := 8, code := some k3c0 }
/-- com/example/sixteenfold/sixteenfold/resizing/RowResizer -/
def k3 : Class := { plain "com/example/sixteenfold/sixteenfold/resizing/RowResizer" (some 0) with
  accessFlags := 48
  interfaces := #[]
  cf := some (fileOf pool3 22 #[.nestMembers #[73, 82, 157, 155, 167]] #[{ accessFlags := 8, nameIndex := 145, descriptorIndex := 146, attributes := #[] }] 48 11 #[] #[{ accessFlags := 26, nameIndex := 140, descriptorIndex := 42, attributes := #[] }, { accessFlags := 26, nameIndex := 143, descriptorIndex := 144, attributes := #[] }, { accessFlags := 18, nameIndex := 25, descriptorIndex := 26, attributes := #[] }, { accessFlags := 18, nameIndex := 29, descriptorIndex := 26, attributes := #[] }, { accessFlags := 18, nameIndex := 38, descriptorIndex := 33, attributes := #[] }, { accessFlags := 18, nameIndex := 41, descriptorIndex := 42, attributes := #[] }, { accessFlags := 18, nameIndex := 45, descriptorIndex := 42, attributes := #[] }, { accessFlags := 18, nameIndex := 48, descriptorIndex := 42, attributes := #[] }, { accessFlags := 18, nameIndex := 51, descriptorIndex := 42, attributes := #[] }, { accessFlags := 18, nameIndex := 58, descriptorIndex := 59, attributes := #[] }])
  fields := #[{ name := "SMALLEST_SHARE", type := .int, accessFlags := 26, slot := 0, constantValue := 0 }, { name := "SAMPLES_PER_THREAD", type := .long, accessFlags := 26, slot := 1, constantValue := 0 }, { name := "across", type := (.object "com/example/sixteenfold/sixteenfold/resizing/AxisTaps"), accessFlags := 18, slot := 0, constantValue := 0 }, { name := "down", type := (.object "com/example/sixteenfold/sixteenfold/resizing/AxisTaps"), accessFlags := 18, slot := 1, constantValue := 0 }, { name := "bands", type := (.array (.object "com/example/sixteenfold/sixteenfold/resizing/RowResizer$Band")), accessFlags := 18, slot := 2, constantValue := 0 }, { name := "sourceWidth", type := .int, accessFlags := 18, slot := 3, constantValue := 0 }, { name := "sourceHeight", type := .int, accessFlags := 18, slot := 4, constantValue := 0 }, { name := "width", type := .int, accessFlags := 18, slot := 5, constantValue := 0 }, { name := "height", type := .int, accessFlags := 18, slot := 6, constantValue := 0 }, { name := "columnsFirst", type := .boolean, accessFlags := 18, slot := 7, constantValue := 0 }]
  methods := #[k3m0]
  instanceTypes := #[(.object "com/example/sixteenfold/sixteenfold/resizing/AxisTaps"), (.object "com/example/sixteenfold/sixteenfold/resizing/AxisTaps"), (.array (.object "com/example/sixteenfold/sixteenfold/resizing/RowResizer$Band")), .int, .int, .int, .int, .boolean]
  staticTypes := #[.int, .long]
  resolved := Array.replicate 200 none
  statics := none }

def pool4 : Array CpInfo := pool [(1, u "java/lang/Cloneable"), (0, .class_ 1), (0, u "java/lang/Object"), (0, .class_ 3)] 3

/-- java/lang/Cloneable -/
def k4 : Class := { plain "java/lang/Cloneable" (some 0) with
  accessFlags := 1537
  interfaces := #[]
  cf := some (fileOf pool4 2 #[] #[] 1537 4 #[] #[])
  fields := #[]
  methods := #[]
  instanceTypes := #[]
  staticTypes := #[]
  resolved := Array.replicate 8 none
  statics := none }

def pool5 : Array CpInfo := pool [(1, u "java/io/Serializable"), (0, .class_ 1), (0, u "java/lang/Object"), (0, .class_ 3)] 3

/-- java/io/Serializable -/
def k5 : Class := { plain "java/io/Serializable" (some 0) with
  accessFlags := 1537
  interfaces := #[]
  cf := some (fileOf pool5 2 #[] #[] 1537 4 #[] #[])
  fields := #[]
  methods := #[]
  instanceTypes := #[]
  staticTypes := #[]
  resolved := Array.replicate 8 none
  statics := none }

/-- the primitive byte -/
def k6 : Class := { plain "byte" none with kind := .primitive 'B', accessFlags := 0x411 }
/-- [B -/
def k7 : Class := { plain "[B" (some 0) with kind := .array 6 .byte, interfaces := #[4, 5], accessFlags := 1041 }

/-- the primitive double -/
def k8 : Class := { plain "double" none with kind := .primitive 'D', accessFlags := 0x411 }
/-- [D -/
def k9 : Class := { plain "[D" (some 0) with kind := .array 8 .double, interfaces := #[4, 5], accessFlags := 1041 }

/-- the primitive int -/
def k10 : Class := { plain "int" none with kind := .primitive 'I', accessFlags := 0x411 }
/-- [I -/
def k11 : Class := { plain "[I" (some 0) with kind := .array 10 .int, interfaces := #[4, 5], accessFlags := 1041 }

def heap : Heap := #[]
def classes : Array Class := #[k0, k1, k2, k3, k4, k5, k6, k7, k8, k9, k10, k11]
def interned : List (Array UInt16 × Addr) := []
def slotsUsed : Nat := 0
def theMethod : MethodId := ⟨1, 2⟩
def args0 : Array Value := #[.int 5, .int 6, .int 7, .int 8, .int 4, .int 1]
def aboutOver (below : List Frame) : State where
  vm := { classes := classes, interned := interned.toArray }
  heap := heap
  slotsUsed := slotsUsed
  threads := #[{ frames := .invoking theMethod args0 :: below }]
def below0 : List Frame := [.native { method := ⟨0, 0⟩, args := #[] }]
def about1 : State := aboutOver below0
def p0 : Program := .bare "" "" ""
def e0 : Env := launch0.env 0 0 0
theorem w_frames : about1.frames = Frame.invoking theMethod args0 :: below0 := rfl
set_option maxRecDepth 65536 in
theorem w_args : argsFit about1.vm theMethod args0 = true := by decide +kernel
set_option maxRecDepth 65536 in
theorem w_heap : heapFits about1 = true := by decide +kernel
set_option maxRecDepth 65536 in
theorem w_runnable : about1.curStatus? = some .runnable := by decide +kernel
set_option maxRecDepth 65536 in
theorem w_alone : about1.alone = true := by decide +kernel
set_option maxRecDepth 65536 in
theorem w_named : about1.methodNamed? x = some theMethod := by decide +kernel
set_option maxRecDepth 65536 in
theorem w_hears : about1.hears theMethod below0 = true := by decide +kernel
set_option maxRecDepth 65536 in
theorem w_ripe : about1.ripe theMethod args0 below0 = true := by decide +kernel
theorem w_running : about1.status = .running := rfl
set_option maxRecDepth 65536 in
theorem w_room : about1.hasRoom e0.platform room_1 = true :=
  launch0.hasRoom_least _ room_1 (by decide +kernel) (by decide +kernel) (by decide +kernel) (by decide +kernel) (by decide +kernel) (by decide +kernel)
theorem allAtoms_all (ts : List Jvm.Cond) (a : Array Jvm.Value) (st : Jvm.State) : (allAtoms ts).before a st = ts.all (fun c => c.before a st) := by
  induction ts with
  | nil => rfl
  | cons c t ih =>
    show (Jvm.Cond.and c (allAtoms t)).before a st = _
    rw [Jvm.Cond.before_and, ih, List.all_cons]
def words1 : List Jvm.Cond := Jvm.Cond.code x code maxLocals ret :: tables_1
/-- a 'code' word, met by the world's own term for the bytes: nothing is compared byte by byte -/
theorem code_word {y : MethodName} {bytes : ByteArray} {mx : Nat} {rt : Option FieldType} {a : Array Value} {s : State} {m : MethodId} {meth : Method} {c : Code} (h1 : s.methodNamed? y = some m) (h2 : s.vm.method? m = some meth) (h3 : meth.code = some c) (h4 : c.code = bytes)
    (h5 : (c.maxLocals == mx && c.exceptionTable.isEmpty && decide (c.maxStack ≤ mostOperands) && decide (meth.sig.returnType = rt) && !meth.locks && decide (parseMethodDescriptor y.desc = some meth.sig)) = true) : (Jvm.Cond.code y bytes mx rt).before a s = true := by
  simp only [Bool.and_eq_true, beq_iff_eq, Bool.not_eq_true', decide_eq_true_eq] at h5
  obtain ⟨⟨⟨⟨⟨g1, g2⟩, g3⟩, g4⟩, g5⟩, g6⟩ := h5
  simp [Cond.before, Cond.holds, Cond.value, h1, h2, h3, h4, g1, g2, g3, g4, g5, g6]
def isCode : Jvm.Cond → Bool
  | .code _ _ _ _ => true
  | _ => false
theorem all_split {L : List Jvm.Cond} {P : Jvm.Cond → Bool} (h1 : L.all (fun c => isCode c || P c) = true) (h2 : ∀ c ∈ L.filter isCode, P c = true) : L.all P = true := by
  refine List.all_eq_true.mpr fun c hc => ?_
  have h := List.all_eq_true.mp h1 c hc
  rcases Bool.eq_false_or_eq_true (isCode c) with hi | hi
  · exact h2 c (List.mem_filter.mpr ⟨hc, hi⟩)
  · simpa [hi] using h
set_option maxRecDepth 65536 in
theorem w_c0 : (Jvm.Cond.code x code maxLocals ret).before args0 about1 = true := code_word (m := ⟨1, 2⟩) (meth := k1m2) (c := k1c2) (by decide +kernel) rfl rfl rfl (by decide +kernel)
set_option maxRecDepth 65536 in
theorem w_c1 : (Jvm.Cond.code ({ cls := "java/lang/Math", name := "min", desc := "(II)I" } : Jvm.MethodName) jdk_29_method_69_code (2 : Nat) (Option.some Jvm.ClassFile.FieldType.int)).before args0 about1 = true := code_word (m := ⟨2, 3⟩) (meth := k2m3) (c := k2c3) (by decide +kernel) rfl rfl rfl (by decide +kernel)
set_option maxRecDepth 65536 in
theorem w_c2 : (Jvm.Cond.code ({ cls := "java/lang/Math", name := "max", desc := "(II)I" } : Jvm.MethodName) jdk_29_method_65_code (2 : Nat) (Option.some Jvm.ClassFile.FieldType.int)).before args0 about1 = true := code_word (m := ⟨2, 1⟩) (meth := k2m1) (c := k2c1) (by decide +kernel) rfl rfl rfl (by decide +kernel)
set_option maxRecDepth 65536 in
theorem w_c3 : (Jvm.Cond.code ({ cls := "com/example/sixteenfold/sixteenfold/resizing/RowResizer", name := "clamp", desc := "([DDD)V" } : Jvm.MethodName) prog_37_method_1_code (6 : Nat) (Option.none : Option Jvm.ClassFile.FieldType)).before args0 about1 = true := code_word (m := ⟨3, 0⟩) (meth := k3m0) (c := k3c0) (by decide +kernel) rfl rfl rfl (by decide +kernel)
set_option maxRecDepth 65536 in
theorem w_c4 : (Jvm.Cond.code ({ cls := "java/lang/Math", name := "max", desc := "(DD)D" } : Jvm.MethodName) jdk_29_method_68_code (4 : Nat) (Option.some Jvm.ClassFile.FieldType.double)).before args0 about1 = true := code_word (m := ⟨2, 2⟩) (meth := k2m2) (c := k2c2) (by decide +kernel) rfl rfl rfl (by decide +kernel)
set_option maxRecDepth 65536 in
theorem w_c5 : (Jvm.Cond.code ({ cls := "java/lang/Math", name := "min", desc := "(DD)D" } : Jvm.MethodName) jdk_29_method_72_code (4 : Nat) (Option.some Jvm.ClassFile.FieldType.double)).before args0 about1 = true := code_word (m := ⟨2, 4⟩) (meth := k2m4) (c := k2c4) (by decide +kernel) rfl rfl rfl (by decide +kernel)
set_option maxRecDepth 65536 in
theorem w_c6 : (Jvm.Cond.code ({ cls := "com/example/sixteenfold/sixteenfold/resizing/RowResizerClampPinLaw", name := "ref", desc := "(DDD)D" } : Jvm.MethodName) method_2_code (6 : Nat) (Option.some Jvm.ClassFile.FieldType.double)).before args0 about1 = true := code_word (m := ⟨1, 1⟩) (meth := k1m1) (c := k1c1) (by decide +kernel) rfl rfl rfl (by decide +kernel)
def codes1 : List Jvm.Cond := [Jvm.Cond.code x code maxLocals ret, Jvm.Cond.code ({ cls := "java/lang/Math", name := "min", desc := "(II)I" } : Jvm.MethodName) jdk_29_method_69_code (2 : Nat) (Option.some Jvm.ClassFile.FieldType.int), Jvm.Cond.code ({ cls := "java/lang/Math", name := "max", desc := "(II)I" } : Jvm.MethodName) jdk_29_method_65_code (2 : Nat) (Option.some Jvm.ClassFile.FieldType.int), Jvm.Cond.code ({ cls := "com/example/sixteenfold/sixteenfold/resizing/RowResizer", name := "clamp", desc := "([DDD)V" } : Jvm.MethodName) prog_37_method_1_code (6 : Nat) (Option.none : Option Jvm.ClassFile.FieldType), Jvm.Cond.code ({ cls := "java/lang/Math", name := "max", desc := "(DD)D" } : Jvm.MethodName) jdk_29_method_68_code (4 : Nat) (Option.some Jvm.ClassFile.FieldType.double), Jvm.Cond.code ({ cls := "java/lang/Math", name := "min", desc := "(DD)D" } : Jvm.MethodName) jdk_29_method_72_code (4 : Nat) (Option.some Jvm.ClassFile.FieldType.double), Jvm.Cond.code ({ cls := "com/example/sixteenfold/sixteenfold/resizing/RowResizerClampPinLaw", name := "ref", desc := "(DDD)D" } : Jvm.MethodName) method_2_code (6 : Nat) (Option.some Jvm.ClassFile.FieldType.double)]
set_option maxRecDepth 65536 in
theorem codes_eq : words1.filter isCode = codes1 := rfl
theorem w_codes : ∀ c ∈ words1.filter isCode, c.before args0 about1 = true := by
  rw [codes_eq]
  intro c hc
  simp only [codes1, List.mem_cons, List.not_mem_nil, or_false] at hc
  rcases hc with rfl | rfl | rfl | rfl | rfl | rfl | rfl
  · exact w_c0
  · exact w_c1
  · exact w_c2
  · exact w_c3
  · exact w_c4
  · exact w_c5
  · exact w_c6
set_option maxRecDepth 65536 in
theorem w_t1 : (words1.take 24).all (fun c => isCode c || c.before args0 about1) = true := by decide +kernel
set_option maxRecDepth 65536 in
theorem w_t2 : (words1.drop 24).all (fun c => isCode c || c.before args0 about1) = true := by decide +kernel
theorem w_tables : (allAtoms (Jvm.Cond.code x code maxLocals ret :: tables_1)).before args0 about1 = true := by
  rw [allAtoms_all]
  show words1.all (fun c => c.before args0 about1) = true
  refine all_split ?_ w_codes
  rw [← List.take_append_drop 24 words1, List.all_append, w_t1, w_t2]
  rfl
set_option maxRecDepth 65536 in
theorem w_case : (Jvm.Cond.and given_1 narrow_1).before args0 about1 = true := by decide +kernel
theorem w_applies : (headSpec (Jvm.Cond.code x code maxLocals ret :: tables_1) room_1).applies x e0.platform about1 = true :=
  (Spec.applies_iff w_frames).mpr ⟨w_running, w_runnable, w_alone, w_named, w_hears, w_ripe, w_room, w_tables⟩
theorem atStart : AtStart classFile x code maxLocals ret World_1 tables_1 room_1 Calls_1 rest_1 Pre_1 launch0 p0 e0 about1 theMethod args0 below0 :=
  ⟨lists_1, trivial, launch0.admits_env _ _ _, launch0.least_env, fairChoices_fair.cas, fairChoices_fair.clock, w_frames, w_args, w_heap, w_applies, trivial, trivial, w_case⟩
end start1
theorem witness_1 : WitnessClaimed_1 := ⟨start1.p0, start1.e0, start1.about1, start1.theMethod, start1.args0, start1.below0, start1.atStart⟩
end Jvm.Pilot.@@N@@
