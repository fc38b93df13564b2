import PyProof.Rows.All
import Wide.All
import OpenK.AllK
import Wide.FinOn
import PyProof.IsiH_list
import PyProof.IsiStr
import KE.KxBytes
import KE.KxDecode
import PySem.Challenge.RW_ti0010_01
set_option Elab.async false
section
set_option linter.all false
set_option maxRecDepth 4000
local macro_rules | `(tactic| omega) => `(tactic| first | with_reducible assumption | with_reducible exact Int.le_of_lt (by assumption) | with_reducible exact Nat.le_of_lt (by assumption) | lia)
section
open PySem PySem.W PyProof.Rows
namespace Mine
theorem via {G : Prop} (h : ∀ X : Prop, (G → X) → X) : G := h G id
theorem exI2 {α : Sort _} {β : Sort _} {p : α → β → Prop} (x0 : α) (x1 : β) (h : p x0 x1) : ∃ x0 x1, p x0 x1 := ⟨x0, x1, h⟩
theorem exI3 {α : Sort _} {β : Sort _} {γ : Sort _} {p : α → β → γ → Prop} (x0 : α) (x1 : β) (x2 : γ) (h : p x0 x1 x2) : ∃ x0 x1 x2, p x0 x1 x2 := ⟨x0, x1, x2, h⟩
theorem exI4 {α : Sort _} {β : Sort _} {γ : Sort _} {δ : Sort _} {p : α → β → γ → δ → Prop} (x0 : α) (x1 : β) (x2 : γ) (x3 : δ) (h : p x0 x1 x2 x3) : ∃ x0 x1 x2 x3, p x0 x1 x2 x3 := ⟨x0, x1, x2, x3, h⟩
theorem exI5 {α : Sort _} {β : Sort _} {γ : Sort _} {δ : Sort _} {ε : Sort _} {p : α → β → γ → δ → ε → Prop} (x0 : α) (x1 : β) (x2 : γ) (x3 : δ) (x4 : ε) (h : p x0 x1 x2 x3 x4) : ∃ x0 x1 x2 x3 x4, p x0 x1 x2 x3 x4 := ⟨x0, x1, x2, x3, x4, h⟩
theorem exI7 {α : Sort _} {β : Sort _} {γ : Sort _} {δ : Sort _} {ε : Sort _} {ζ : Sort _} {η : Sort _} {p : α → β → γ → δ → ε → ζ → η → Prop} (x0 : α) (x1 : β) (x2 : γ) (x3 : δ) (x4 : ε) (x5 : ζ) (x6 : η) (h : p x0 x1 x2 x3 x4 x5 x6) : ∃ x0 x1 x2 x3 x4 x5 x6, p x0 x1 x2 x3 x4 x5 x6 := ⟨x0, x1, x2, x3, x4, x5, x6, h⟩
theorem exI9 {α : Sort _} {β : Sort _} {γ : Sort _} {δ : Sort _} {ε : Sort _} {ζ : Sort _} {η : Sort _} {θ : Sort _} {ι : Sort _} {p : α → β → γ → δ → ε → ζ → η → θ → ι → Prop} (x0 : α) (x1 : β) (x2 : γ) (x3 : δ) (x4 : ε) (x5 : ζ) (x6 : η) (x7 : θ) (x8 : ι) (h : p x0 x1 x2 x3 x4 x5 x6 x7 x8) : ∃ x0 x1 x2 x3 x4 x5 x6 x7 x8, p x0 x1 x2 x3 x4 x5 x6 x7 x8 := ⟨x0, x1, x2, x3, x4, x5, x6, x7, x8, h⟩
theorem exE1 {α : Sort _} {p : α → Prop} {G : Prop} (h : ∃ x0, p x0) (k : ∀ x0, p x0 → G) : G := h.elim fun x0 h => k x0 h
theorem exE2 {α : Sort _} {β : Sort _} {p : α → β → Prop} {G : Prop} (h : ∃ x0 x1, p x0 x1) (k : ∀ x0 x1, p x0 x1 → G) : G := h.elim fun x0 h => exE1 h (k x0)
theorem exE3 {α : Sort _} {β : Sort _} {γ : Sort _} {p : α → β → γ → Prop} {G : Prop} (h : ∃ x0 x1 x2, p x0 x1 x2) (k : ∀ x0 x1 x2, p x0 x1 x2 → G) : G := h.elim fun x0 h => exE2 h (k x0)
theorem exE4 {α : Sort _} {β : Sort _} {γ : Sort _} {δ : Sort _} {p : α → β → γ → δ → Prop} {G : Prop} (h : ∃ x0 x1 x2 x3, p x0 x1 x2 x3) (k : ∀ x0 x1 x2 x3, p x0 x1 x2 x3 → G) : G := h.elim fun x0 h => exE3 h (k x0)
theorem exE5 {α : Sort _} {β : Sort _} {γ : Sort _} {δ : Sort _} {ε : Sort _} {p : α → β → γ → δ → ε → Prop} {G : Prop} (h : ∃ x0 x1 x2 x3 x4, p x0 x1 x2 x3 x4) (k : ∀ x0 x1 x2 x3 x4, p x0 x1 x2 x3 x4 → G) : G := h.elim fun x0 h => exE4 h (k x0)
theorem exE6 {α : Sort _} {β : Sort _} {γ : Sort _} {δ : Sort _} {ε : Sort _} {ζ : Sort _} {p : α → β → γ → δ → ε → ζ → Prop} {G : Prop} (h : ∃ x0 x1 x2 x3 x4 x5, p x0 x1 x2 x3 x4 x5) (k : ∀ x0 x1 x2 x3 x4 x5, p x0 x1 x2 x3 x4 x5 → G) : G := h.elim fun x0 h => exE5 h (k x0)
theorem exE7 {α : Sort _} {β : Sort _} {γ : Sort _} {δ : Sort _} {ε : Sort _} {ζ : Sort _} {η : Sort _} {p : α → β → γ → δ → ε → ζ → η → Prop} {G : Prop} (h : ∃ x0 x1 x2 x3 x4 x5 x6, p x0 x1 x2 x3 x4 x5 x6) (k : ∀ x0 x1 x2 x3 x4 x5 x6, p x0 x1 x2 x3 x4 x5 x6 → G) : G := h.elim fun x0 h => exE6 h (k x0)
theorem exE8 {α : Sort _} {β : Sort _} {γ : Sort _} {δ : Sort _} {ε : Sort _} {ζ : Sort _} {η : Sort _} {θ : Sort _} {p : α → β → γ → δ → ε → ζ → η → θ → Prop} {G : Prop} (h : ∃ x0 x1 x2 x3 x4 x5 x6 x7, p x0 x1 x2 x3 x4 x5 x6 x7) (k : ∀ x0 x1 x2 x3 x4 x5 x6 x7, p x0 x1 x2 x3 x4 x5 x6 x7 → G) : G := h.elim fun x0 h => exE7 h (k x0)
theorem exE9 {α : Sort _} {β : Sort _} {γ : Sort _} {δ : Sort _} {ε : Sort _} {ζ : Sort _} {η : Sort _} {θ : Sort _} {ι : Sort _} {p : α → β → γ → δ → ε → ζ → η → θ → ι → Prop} {G : Prop} (h : ∃ x0 x1 x2 x3 x4 x5 x6 x7 x8, p x0 x1 x2 x3 x4 x5 x6 x7 x8) (k : ∀ x0 x1 x2 x3 x4 x5 x6 x7 x8, p x0 x1 x2 x3 x4 x5 x6 x7 x8 → G) : G := h.elim fun x0 h => exE8 h (k x0)
theorem anE2 {p0 p1 G : Prop} (h : p0 ∧ p1) (k : p0 → p1 → G) : G := k h.1 h.2
theorem anE3 {p0 p1 p2 G : Prop} (h : p0 ∧ p1 ∧ p2) (k : p0 → p1 → p2 → G) : G := anE2 h.2 (k h.1)
theorem anE4 {p0 p1 p2 p3 G : Prop} (h : p0 ∧ p1 ∧ p2 ∧ p3) (k : p0 → p1 → p2 → p3 → G) : G := anE3 h.2 (k h.1)
theorem anE5 {p0 p1 p2 p3 p4 G : Prop} (h : p0 ∧ p1 ∧ p2 ∧ p3 ∧ p4) (k : p0 → p1 → p2 → p3 → p4 → G) : G := anE4 h.2 (k h.1)
theorem anE6 {p0 p1 p2 p3 p4 p5 G : Prop} (h : p0 ∧ p1 ∧ p2 ∧ p3 ∧ p4 ∧ p5) (k : p0 → p1 → p2 → p3 → p4 → p5 → G) : G := anE5 h.2 (k h.1)
theorem anE7 {p0 p1 p2 p3 p4 p5 p6 G : Prop} (h : p0 ∧ p1 ∧ p2 ∧ p3 ∧ p4 ∧ p5 ∧ p6) (k : p0 → p1 → p2 → p3 → p4 → p5 → p6 → G) : G := anE6 h.2 (k h.1)
theorem anE8 {p0 p1 p2 p3 p4 p5 p6 p7 G : Prop} (h : p0 ∧ p1 ∧ p2 ∧ p3 ∧ p4 ∧ p5 ∧ p6 ∧ p7) (k : p0 → p1 → p2 → p3 → p4 → p5 → p6 → p7 → G) : G := anE7 h.2 (k h.1)
theorem anE9 {p0 p1 p2 p3 p4 p5 p6 p7 p8 G : Prop} (h : p0 ∧ p1 ∧ p2 ∧ p3 ∧ p4 ∧ p5 ∧ p6 ∧ p7 ∧ p8) (k : p0 → p1 → p2 → p3 → p4 → p5 → p6 → p7 → p8 → G) : G := anE8 h.2 (k h.1)
theorem anE10 {p0 p1 p2 p3 p4 p5 p6 p7 p8 p9 G : Prop} (h : p0 ∧ p1 ∧ p2 ∧ p3 ∧ p4 ∧ p5 ∧ p6 ∧ p7 ∧ p8 ∧ p9) (k : p0 → p1 → p2 → p3 → p4 → p5 → p6 → p7 → p8 → p9 → G) : G := anE9 h.2 (k h.1)
theorem anE11 {p0 p1 p2 p3 p4 p5 p6 p7 p8 p9 p10 G : Prop} (h : p0 ∧ p1 ∧ p2 ∧ p3 ∧ p4 ∧ p5 ∧ p6 ∧ p7 ∧ p8 ∧ p9 ∧ p10) (k : p0 → p1 → p2 → p3 → p4 → p5 → p6 → p7 → p8 → p9 → p10 → G) : G := anE10 h.2 (k h.1)
theorem anE12 {p0 p1 p2 p3 p4 p5 p6 p7 p8 p9 p10 p11 G : Prop} (h : p0 ∧ p1 ∧ p2 ∧ p3 ∧ p4 ∧ p5 ∧ p6 ∧ p7 ∧ p8 ∧ p9 ∧ p10 ∧ p11) (k : p0 → p1 → p2 → p3 → p4 → p5 → p6 → p7 → p8 → p9 → p10 → p11 → G) : G := anE11 h.2 (k h.1)
theorem anE13 {p0 p1 p2 p3 p4 p5 p6 p7 p8 p9 p10 p11 p12 G : Prop} (h : p0 ∧ p1 ∧ p2 ∧ p3 ∧ p4 ∧ p5 ∧ p6 ∧ p7 ∧ p8 ∧ p9 ∧ p10 ∧ p11 ∧ p12) (k : p0 → p1 → p2 → p3 → p4 → p5 → p6 → p7 → p8 → p9 → p10 → p11 → p12 → G) : G := anE12 h.2 (k h.1)
theorem anE14 {p0 p1 p2 p3 p4 p5 p6 p7 p8 p9 p10 p11 p12 p13 G : Prop} (h : p0 ∧ p1 ∧ p2 ∧ p3 ∧ p4 ∧ p5 ∧ p6 ∧ p7 ∧ p8 ∧ p9 ∧ p10 ∧ p11 ∧ p12 ∧ p13) (k : p0 → p1 → p2 → p3 → p4 → p5 → p6 → p7 → p8 → p9 → p10 → p11 → p12 → p13 → G) : G := anE13 h.2 (k h.1)
theorem anE15 {p0 p1 p2 p3 p4 p5 p6 p7 p8 p9 p10 p11 p12 p13 p14 G : Prop} (h : p0 ∧ p1 ∧ p2 ∧ p3 ∧ p4 ∧ p5 ∧ p6 ∧ p7 ∧ p8 ∧ p9 ∧ p10 ∧ p11 ∧ p12 ∧ p13 ∧ p14) (k : p0 → p1 → p2 → p3 → p4 → p5 → p6 → p7 → p8 → p9 → p10 → p11 → p12 → p13 → p14 → G) : G := anE14 h.2 (k h.1)
theorem anE16 {p0 p1 p2 p3 p4 p5 p6 p7 p8 p9 p10 p11 p12 p13 p14 p15 G : Prop} (h : p0 ∧ p1 ∧ p2 ∧ p3 ∧ p4 ∧ p5 ∧ p6 ∧ p7 ∧ p8 ∧ p9 ∧ p10 ∧ p11 ∧ p12 ∧ p13 ∧ p14 ∧ p15) (k : p0 → p1 → p2 → p3 → p4 → p5 → p6 → p7 → p8 → p9 → p10 → p11 → p12 → p13 → p14 → p15 → G) : G := anE15 h.2 (k h.1)
noncomputable abbrev Loc := Str → Option Value
noncomputable abbrev Led := List (Addr × Obj)
noncomputable def isTab (b : Addr) : Prop := b = 47 ∨ b = 54
noncomputable def floorKey : Str := Str.ofString ""
noncomputable def flo (m : Loc) : Nat := match m floorKey with | some (.int i _) => i.toNat | _ => 0
noncomputable def strip (m : Loc) : Loc := fun y => if y = floorKey then none else m y
theorem strip_at {m : Loc} {x : Str} {v : Value} (h : m x = some v) (hx : (x == floorKey) = false) : strip m x = some v := by
  unfold strip; rw [if_neg (fun e => by rw [e] at hx; simp at hx)]; exact h
theorem strip_upd {m : Loc} {x : Str} {v : Value} (hx : (x == floorKey) = false) : strip (fun y => if y = x then some v else m y) = fun y => if y = x then some v else strip m y := by
  funext y
  unfold strip
  by_cases h : y = floorKey
  · have : y ≠ x := fun e => by rw [← e, h] at hx; simp at hx
    simp [h, this]; intro e; rw [h] at this; exact absurd e this
  · simp [h]
theorem flo_upd {m : Loc} {x : Str} {v : Value} (hx : (x == floorKey) = false) : flo (fun y => if y = x then some v else m y) = flo m := by
  unfold flo
  have : floorKey ≠ x := fun e => by rw [← e] at hx; simp at hx
  simp [this]
theorem strip_none {m : Loc} (h : m floorKey = none) : strip m = m := by
  funext y; unfold strip; split
  · rename_i e; rw [e, h]
  · rfl
theorem flo_none {m : Loc} (h : m floorKey = none) : flo m = 0 := by unfold flo; rw [h]
noncomputable def isCode (o : Obj) : Prop := ∃ vs q t, o.data = .fields vs ∧ vs[1]? = some (.str q t)
structure Cx where
  prog : Program
  w : World
  os : OsState
  gens : Array GenState
  k1 : Option Addr := none
  k2 : Option Addr := none
theorem hk {α : Sort _} (ne : Nonempty α) {P : α → Prop} (h : P (@Classical.epsilon α ne fun p => ¬ P p)) : ∀ p, P p := fun p => Classical.byContradiction fun q => (@Classical.epsilon_spec α (fun p => ¬ P p) ⟨p, q⟩) h
noncomputable def nAr : Around := {}
noncomputable def nCx : Cx := ⟨default, ⟨fun _ _ => 0, by constructor <;> exact default⟩, default, #[], none, none⟩
noncomputable def nSh : Shared := {}
noncomputable def TabAt (h : Heap) (P : Addr) (line col : Nat) (qual : Str) (k : Option Addr) : Prop :=
  ∃ ps, h.get? P = some (tabObj ps) ∧ ((ps = #[] ∧ k = none) ∨ ∃ c', ps = #[rawInt line, rawInt col, .ref c'] ∧ h.CodeRec (.ref c') qual ∧ (k = none ∨ k = some c'))
noncomputable def TabOK (g : Cx) (h : Heap) : Prop := TabAt h 47 33 4 (Str.ofString "_int2digits.<locals>.inner") g.k1 ∧ TabAt h 54 48 4 (Str.ofString "_digits2int.<locals>.inner") g.k2
theorem codeRec_keeps {h h' : Heap} {c : Addr} {q : Str} (x : h.CodeRec (.ref c) q) (kc : ∀ b o, h.get? b = some o → isCode o → h'.get? b = some o) : h'.CodeRec (.ref c) q := by
  obtain ⟨c', o, vs, t, e, a, b, d⟩ := x
  exact ⟨c', o, vs, t, e, kc _ _ a ⟨vs, q, t, b, d⟩, b, d⟩
theorem TabAt.keeps {h h' : Heap} {P : Addr} {l c : Nat} {q : Str} {kk : Option Addr} (x : TabAt h P l c q kk) (k : ∀ o, h.get? P = some o → h'.get? P = some o)
    (kc : ∀ b o, h.get? b = some o → isCode o → h'.get? b = some o) : TabAt h' P l c q kk := by
  obtain ⟨ps, e, r⟩ := x
  refine ⟨ps, k _ e, ?_⟩
  rcases r with r | ⟨c', a, b, d⟩
  · exact .inl r
  · exact .inr ⟨c', a, codeRec_keeps b kc, d⟩
theorem TabOK.keeps {g : Cx} {h h' : Heap} (x : TabOK g h) (k : ∀ b o, isTab b → h.get? b = some o → h'.get? b = some o)
    (kc : ∀ b o, h.get? b = some o → isCode o → h'.get? b = some o) : TabOK g h' :=
  ⟨x.1.keeps (fun o e => k _ o (.inl rfl) e) kc, x.2.keeps (fun o e => k _ o (.inr rfl) e) kc⟩
theorem TabOK.get {g : Cx} {h : Heap} (x : TabOK g h) {b : Addr} (hb : isTab b) : ∃ ps, h.get? b = some (tabObj ps) := by
  rcases hb with rfl | rfl
  · obtain ⟨ps, e, _⟩ := x.1; exact ⟨ps, e⟩
  · obtain ⟨ps, e, _⟩ := x.2; exact ⟨ps, e⟩
structure Inv (g : Cx) (h₀ : Heap) (L : Addr) (m : Loc) (N : Led) (s : Shared) : Prop where
  gens : s.gens = g.gens
  os : s.os = g.os
  tab : TabOK g s.heap
  fr : Fr h₀ L s.heap (strip m)
  led : ∀ p ∈ N, s.heap.get? p.1 = some p.2 ∧ p.1 ≠ L ∧ h₀.get? p.1 = none ∧ ¬ isTab p.1
  nd : (N.map (·.1)).Nodup
  t54 : 54 < h₀.objs.size ∧ ∀ b, isTab b → h₀.get? b = none
  fl : flo m ≤ s.toks ∧ 0 < s.toks
theorem Inv.news {g h₀ L m N s} (I : Inv g h₀ L m N s) : News h₀ L s.heap N := fun p hp => ⟨(I.led p hp).1, (I.led p hp).2.1, (I.led p hp).2.2.1⟩
theorem Inv.toks {g h₀ L m N s} (I : Inv g h₀ L m N s) (tk : Nat) (ht : s.toks ≤ tk) : Inv g h₀ L m N { s with toks := tk } := ⟨I.gens, I.os, I.tab, I.fr, I.led, I.nd, I.t54, Nat.le_trans I.fl.1 ht, Nat.lt_of_lt_of_le I.fl.2 ht⟩
theorem isTab_le {b : Addr} (h : isTab b) : b ≤ 54 := by
  rcases h with rfl | rfl
  · show (47 : Nat) ≤ 54; decide
  · show (54 : Nat) ≤ 54; decide
structure Step (L : Addr) (N N' : Led) (h h' : Heap) : Prop where
  keep : ∀ b o, h.get? b = some o → b ≠ L → (b ∈ N.map (·.1) → isCode o) → ¬ isTab b → h'.get? b = some o
  fresh : ∀ p ∈ N', p.1 ∈ N.map (·.1) ∨ h.objs.size ≤ p.1
  size : h.objs.size ≤ h'.objs.size
theorem Step.refl (L : Addr) (N : Led) (h : Heap) : Step L N N h h := ⟨fun _ _ e _ _ _ => e, fun p hp => .inl (List.mem_map_of_mem hp), Nat.le_refl _⟩
theorem Step.trans {L : Addr} {N N' N'' : Led} {h h' h'' : Heap} (x : Step L N N' h h') (y : Step L N' N'' h' h'') : Step L N N'' h h'' := by
  refine ⟨fun b o e hL hN hT => ?_, fun p hp => ?_, Nat.le_trans x.size y.size⟩
  · refine y.keep b o (x.keep b o e hL hN hT) hL (fun hm => ?_) hT
    obtain ⟨q, hq, rfl⟩ := List.mem_map.mp hm
    rcases x.fresh q hq with h1 | h1
    · exact hN h1
    · exact absurd (Heap.lt_size e) (Nat.not_lt.mpr h1)
  · rcases y.fresh p hp with h1 | h1
    · obtain ⟨q, hq, e⟩ := List.mem_map.mp h1
      have := x.fresh q hq
      rw [show q.1 = p.1 from e] at this
      exact this
    · exact .inr (Nat.le_trans x.size h1)
section
variable {α β : Type} (g0 : Cx)
structure WB (A : Around) (E : Value → Shared → Prop) (h₀ : Heap) (L : Addr) (m : Loc) (N : Led) (t : Sem α) (Q : α → Loc → Led → Prop) : Prop where
  run : ∀ s, Inv g0 h₀ L m N s → wpAny (model g0.prog g0.w) A t (fun a s' => ∃ m' N', Inv g0 h₀ L m' N' s' ∧ Step L N N' s.heap s'.heap ∧ Q a m' N') E s
end
section
variable {α β : Type} {prog : Program} {w : World} {g0 : Cx} {A : Around} {E : Value → Shared → Prop} {h₀ : Heap} {L : Addr} {m : Loc} {N : Led}
theorem WB.pure {a : α} {Q : α → Loc → Led → Prop} (h : Q a m N) : WB g0 A E h₀ L m N (pure a) Q :=
  ⟨fun s I => wpAny_pure ⟨m, N, I, .refl .., h⟩⟩
theorem WB.mono {t : Sem α} {Q Q' : α → Loc → Led → Prop} (h : WB g0 A E h₀ L m N t Q) (hq : ∀ a m' N', Q a m' N' → Q' a m' N') : WB g0 A E h₀ L m N t Q' :=
  ⟨fun s I => wpAny_mono (h.run s I) (fun a s' ⟨m', N', I', S, q⟩ => ⟨m', N', I', S, hq _ _ _ q⟩) fun _ _ e => e⟩
theorem WB.seal {t : Sem α} {P : α → Loc → Led → Prop} (h : ∀ Q : α → Loc → Led → Prop, (∀ a m' N', P a m' N' → Q a m' N') → WB g0 A E h₀ L m N t Q) : WB g0 A E h₀ L m N t P := h P fun _ _ _ q => q
theorem WB.exc {E' : Value → Shared → Prop} {t : Sem α} {Q : α → Loc → Led → Prop} (h : WB g0 A (fun _ _ => False) h₀ L m N t Q) : WB g0 A E' h₀ L m N t Q :=
  ⟨fun s I => wpAny_mono (h.run s I) (fun a s' q => q) fun _ _ e => e.elim⟩
theorem WB.bind {t : Sem α} {f : α → Sem β} {Q : β → Loc → Led → Prop} (h : WB g0 A E h₀ L m N t fun a m' N' => WB g0 A E h₀ L m' N' (f a) Q) :
    WB g0 A E h₀ L m N (t >>= f) Q :=
  ⟨fun s I => wpAny_bind (wpAny_mono (h.run s I) (fun a s' ⟨m', N', I', S, q⟩ => wpAny_mono (q.run s' I') (fun b s'' ⟨m'', N'', I'', S', r⟩ => ⟨m'', N'', I'', S.trans S', r⟩) fun _ _ e => e) fun _ _ e => e)⟩
theorem wpAny_tk {M : Model} {t : Sem α} {Q : α → Shared → Prop} {s : Shared} (h : wpAny M A t (fun a s' => s.toks ≤ s'.toks → Q a s') (fun _ _ => False) s) : wpAny M A t Q E s :=
  wpAny_mono (wpAny_toks_of (n := s.toks) (Nat.le_refl _) h) (fun _ _ ⟨ht, k⟩ => k ht) fun _ _ e => e.2.elim
theorem WB.tok {t : Sem α} {f : Tok → α} {Q : α → Loc → Led → Prop} (lem : ∀ s (Q' : α → Shared → Prop) E', (∀ k tk, Q' (f k) { s with toks := tk }) → wpAny (model g0.prog g0.w) A t Q' E' s)
    (h : ∀ k, Q (f k) m N) : WB g0 A E h₀ L m N t Q :=
  ⟨fun s I => wpAny_tk (lem s _ _ fun k tk ht => ⟨m, N, I.toks tk ht, .refl .., h k⟩)⟩
theorem WB.still {t : Sem α} {a : α} {Q : α → Loc → Led → Prop} (lem : ∀ s (Q' : α → Shared → Prop) E', (∀ tk, Q' a { s with toks := tk }) → wpAny (model g0.prog g0.w) A t Q' E' s)
    (h : Q a m N) : WB g0 A E h₀ L m N t Q :=
  ⟨fun s I => wpAny_tk (lem s _ _ fun tk ht => ⟨m, N, I.toks tk ht, .refl .., h⟩)⟩
noncomputable def At (h₀ : Heap) (N : Led) (a : Addr) (o : Obj) : Prop := h₀.get? a = some o ∨ (a, o) ∈ N
theorem Inv.at {g h₀ L m N s} (I : Inv g h₀ L m N s) {a : Addr} {o : Obj} (x : At h₀ N a o) : s.heap.get? a = some o :=
  x.elim (fun e => I.fr.keep _ _ e) fun e => (I.led _ e).1
theorem WB.tokR {t : Sem α} {f : Tok → α} {Q : α → Loc → Led → Prop} (lem : ∀ s (Q' : α → Shared → Prop) E', (∀ a o, At h₀ N a o → s.heap.get? a = some o) → (∀ k tk, Q' (f k) { s with toks := tk }) → wpAny (model g0.prog g0.w) A t Q' E' s)
    (h : ∀ k, Q (f k) m N) : WB g0 A E h₀ L m N t Q :=
  ⟨fun s I => wpAny_tk (lem s _ _ (fun _ _ x => I.at x) fun k tk ht => ⟨m, N, I.toks tk ht, .refl .., h k⟩)⟩
theorem WB.stillR {t : Sem α} {a : α} {Q : α → Loc → Led → Prop} (lem : ∀ s (Q' : α → Shared → Prop) E', (∀ a o, At h₀ N a o → s.heap.get? a = some o) → (∀ tk, Q' a { s with toks := tk }) → wpAny (model g0.prog g0.w) A t Q' E' s)
    (h : Q a m N) : WB g0 A E h₀ L m N t Q :=
  ⟨fun s I => wpAny_tk (lem s _ _ (fun _ _ x => I.at x) fun tk ht => ⟨m, N, I.toks tk ht, .refl .., h⟩)⟩
theorem Inv.keeps {g} {s : Shared} (I : Inv g h₀ L m N s) {h' : Heap} (k : ∀ b o, s.heap.get? b = some o → h'.get? b = some o) (tk : Nat) (ht : s.toks ≤ tk) : Inv g h₀ L m N { s with heap := h', toks := tk } :=
  ⟨I.gens, I.os, I.tab.keeps (fun b o _ e => k b o e) fun b o e _ => k b o e, ⟨I.fr.ns.keeps k, fun b o e => k b o (I.fr.keep b o e), I.fr.above⟩, fun p hp => ⟨k _ _ (I.led p hp).1, (I.led p hp).2⟩, I.nd, I.t54, Nat.le_trans I.fl.1 ht, Nat.lt_of_lt_of_le I.fl.2 ht⟩
structure Fresh (h₀ : Heap) (L : Addr) (N : Led) (a : Addr) : Prop where
  ge : h₀.objs.size ≤ a
  gtL : L < a
  gt : ∀ p ∈ N, p.1 < a
theorem Inv.add {g} {s : Shared} (I : Inv g h₀ L m N s) {h' : Heap} {M : Led} (k : ∀ b o, s.heap.get? b = some o → h'.get? b = some o) (hM : ∀ p ∈ M, h'.get? p.1 = some p.2 ∧ s.heap.objs.size ≤ p.1)
    (nd : (M.map (·.1)).Nodup) (tk : Nat) (ht : s.toks ≤ tk) : Inv g h₀ L m (M ++ N) { s with heap := h', toks := tk } := by
  have I' := I.keeps k tk ht
  refine ⟨I'.gens, I'.os, I'.tab, I'.fr, fun p hp => ?_, ?_, I.t54, I'.fl⟩
  · rcases List.mem_append.mp hp with hp | hp
    · have := hM p hp
      have hge : h₀.objs.size ≤ p.1 := Nat.le_trans (Nat.le_trans I.fr.above (Nat.le_of_lt I.fr.ns.lt)) this.2
      exact ⟨this.1, Nat.ne_of_gt (Nat.lt_of_lt_of_le I.fr.ns.lt this.2), Heap.get?_none_of_le hge, fun hb => absurd (isTab_le hb) (Nat.not_le.mpr (Nat.lt_of_lt_of_le I.t54.1 hge))⟩
    · exact I'.led p hp
  · rw [List.map_append]
    refine List.nodup_append.mpr ⟨nd, I.nd, fun a ha b hb e => ?_⟩
    subst e
    obtain ⟨p, hp, rfl⟩ := List.mem_map.mp ha
    obtain ⟨q, hq, e⟩ := List.mem_map.mp hb
    have h1 := Heap.lt_size (I.led q hq).1
    have h2 := (hM p hp).2
    rw [show q.1 = p.1 from e] at h1
    exact absurd h1 (Nat.not_lt.mpr h2)
theorem WB.alloc {t : Sem Value} {o : Obj} {Q : Value → Loc → Led → Prop} (hf : o.isFreed = false)
    (lem : ∀ s (Q' : Value → Shared → Prop) E', (∀ a o, At h₀ N a o → s.heap.get? a = some o) → (∀ tk, Q' (.ref s.heap.objs.size) { s with heap := s.heap.push o, toks := tk }) → wpAny (model g0.prog g0.w) A t Q' E' s)
    (h : ∀ a, Fresh h₀ L N a → Q (.ref a) m ((a, o) :: N)) : WB g0 A E h₀ L m N t Q :=
  ⟨fun s I => wpAny_tk (lem s _ _ (fun _ _ x => I.at x) fun tk ht => by
    refine ⟨m, (s.heap.objs.size, o) :: N, I.add (M := [(s.heap.objs.size, o)]) (fun b o' e => Heap.get?_push_of_some _ e) (fun p hp => ?_) (by simp) tk ht, ⟨fun b o' e _ _ _ => Heap.get?_push_of_some _ e, fun p hp => ?_, ?_⟩,
      h _ ⟨Nat.le_trans I.fr.above (Nat.le_of_lt I.fr.ns.lt), I.fr.ns.lt, fun p hp => Heap.lt_size (I.led p hp).1⟩⟩
    · rw [List.mem_singleton.mp hp]; exact ⟨Heap.get?_push_size _ hf, Nat.le_refl _⟩
    · rcases List.mem_cons.mp hp with rfl | hp
      · exact .inr (Nat.le_refl _)
      · exact .inl (List.mem_map_of_mem hp)
    · show s.heap.objs.size ≤ (s.heap.push o).objs.size
      rw [Heap.size_push]; exact Nat.le_succ _)⟩
theorem WB.wild {t : Sem α} {Q : α → Loc → Led → Prop} {R : α → Prop}
    (lem : ∀ s (Q' : α → Shared → Prop) E', (∀ a o, At h₀ N a o → s.heap.get? a = some o) → (∀ a h' tk, R a → (∀ b o, s.heap.get? b = some o → h'.get? b = some o) → s.heap.objs.size ≤ h'.objs.size → Q' a { s with heap := h', toks := tk }) → wpAny (model g0.prog g0.w) A t Q' E' s)
    (h : ∀ a, R a → Q a m N) : WB g0 A E h₀ L m N t Q :=
  ⟨fun s I => wpAny_tk (lem s _ _ (fun _ _ x => I.at x) fun a h' tk r k sz ht => ⟨m, N, I.keeps k tk ht, ⟨fun b o e _ _ _ => k b o e, fun p hp => .inl (List.mem_map_of_mem hp), sz⟩, h a r⟩)⟩
theorem WB.local {x : Str} {v : Value} {Q : Unit → Loc → Led → Prop} {cn : Str} {cs : Scope} {a : Addr} {ccd : Value} {cl : List (Str × Addr)}
    (hk : cs.kind = .function) (hx : cs.names.lookup x = some .local)
    (h : Q () (fun y => if y = x then some v else m y) N) (hfk : (x == floorKey) = false := by decide) : WB g0 A E h₀ L m N (storeName (envX cn cs L a ccd cl) x v) Q := ⟨fun s I => by
  refine wpAny_storeName_local hx I.fr.ns (fun h' hn hs => ?_) (by show (cs.kind == .class || (cs.kind == .module && L != mainGlobals)) = false; rw [hk]; rfl)
  have nT : ∀ b, isTab b → b ≠ L := fun b hb e => by
    have := Nat.lt_of_le_of_lt (isTab_le hb) (Nat.lt_of_lt_of_le I.t54.1 I.fr.above)
    rw [e] at this; exact Nat.lt_irrefl _ this
  have kc : ∀ b o, s.heap.get? b = some o → b ≠ L → h'.get? b = some o := fun b o e hb => (hs.2 b hb).trans e
  obtain ⟨oL, es, ep, e1, e2, _⟩ := I.fr.ns
  refine ⟨_, N, ⟨I.gens, I.os, I.tab.keeps (fun b o hb e => kc b o e (nT b hb)) fun b o e hc => kc b o e fun hb => ?_, by rw [strip_upd hfk]; exact I.fr.set hn hs, fun p hp => ⟨kc _ _ (I.led p hp).1 (I.led p hp).2.1, (I.led p hp).2⟩, I.nd, I.t54, by rw [flo_upd hfk]; exact Nat.le_succ_of_le I.fl.1, Nat.lt_succ_of_lt I.fl.2⟩, ⟨fun b o e hb _ _ => kc b o e hb, fun p hp => .inl (List.mem_map_of_mem hp), Nat.le_of_eq hs.1.symm⟩, h⟩
  obtain ⟨vs, _, _, hd, _⟩ := hc
  rw [hb, e1] at e; cases e; rw [e2] at hd; cases hd⟩
noncomputable def setF (m : Loc) (T : Nat) : Loc := fun y => if y = floorKey then some (.int T 0) else m y
theorem strip_setF {m : Loc} {T : Nat} : strip (setF m T) = strip m := by
  funext y; unfold strip setF; split <;> rfl
theorem flo_setF {m : Loc} {T : Nat} : flo (setF m T) = T := by unfold flo setF; simp
theorem setF_get {m : Loc} {T : Nat} {x : Str} (hx : (x == floorKey) = false) : setF m T x = m x := by
  unfold setF; rw [if_neg (fun e => by rw [e] at hx; simp at hx)]
theorem WB.tokF {t : Sem α} {f : Tok → α} {Q : α → Loc → Led → Prop} (lem : ∀ s (Q' : α → Shared → Prop) E', (∀ a o, At h₀ N a o → s.heap.get? a = some o) → Q' (f s.toks) { s with toks := s.toks + 1 } → wpAny (model g0.prog g0.w) A t Q' E' s)
    (h : ∀ k : Nat, flo m ≤ k → 0 < k → Q (f k) (setF m (k + 1)) N) : WB g0 A E h₀ L m N t Q :=
  ⟨fun s I => lem s _ _ (fun _ _ x => I.at x) ⟨_, N, ⟨I.gens, I.os, I.tab, by rw [strip_setF]; exact I.fr, I.led, I.nd, I.t54, by rw [flo_setF]; exact Nat.le_refl _, Nat.succ_pos _⟩, .refl .., h s.toks I.fl.1 I.fl.2⟩⟩
theorem WB.unF {t : Sem α} {Q : α → Loc → Led → Prop} {T : Nat} (h : WB g0 A E h₀ L m N t Q) (h0 : flo m = 0) : WB g0 A E h₀ L (setF m T) N t Q :=
  ⟨fun s I => h.run s ⟨I.gens, I.os, I.tab, by have := I.fr; rw [strip_setF] at this; exact this, I.led, I.nd, I.t54, by rw [h0]; exact Nat.zero_le _, I.fl.2⟩⟩
end
theorem WB.runC {α : Type} {g0 : Cx} {A : Around} {E : Value → Shared → Prop} {h₀ : Heap} {L : Addr} {m : Loc} {N : Led} {t : Sem α} {s : Shared} {P : α → Shared → Prop} (I : Inv g0 h₀ L m N s) (h : WB g0 A (fun _ _ => False) h₀ L m N t fun a m' N' => ∀ s', Inv g0 h₀ L m' N' s' → Step L N N' s.heap s'.heap → P a s') : wpAny (model g0.prog g0.w) A t P E s :=
  wpAny_mono (h.run s I) (fun _ s' ⟨_, _, I', S, q⟩ => q s' I' S) fun _ _ e => e.elim
end Mine

end

section
open PySem PySem.W PyProof.Rows
namespace Mine
noncomputable def upd (m : Loc) (x : Str) (v : Value) : Loc := fun y => if y = x then some v else m y
theorem upd_get {m : Loc} {x y : Str} {v : Value} : upd m x v y = if y = x then some v else m y := rfl
theorem ofString_inj {s t : String} : (Str.ofString s = Str.ofString t) = (s = t) := by
  apply propext
  constructor
  · intro h
    rw [Str.ofString_eq_toList, Str.ofString_eq_toList] at h
    have h1 : s.toList.map Char.toNat = t.toList.map Char.toNat := by simpa using h
    have : s.toList = t.toList := by
      refine List.map_inj_right (f := Char.toNat) (fun a b e => ?_) |>.mp h1
      exact Char.ext (UInt32.toNat_inj.mp e)
    exact String.toList_inj.mp this
  · intro h; rw [h]
theorem upd_hit {m : Loc} {x : Str} {v : Value} : upd m x v x = some v := if_pos rfl
theorem upd_miss {m : Loc} {x y : Str} {v : Value} {r : Option Value} (h : (y == x) = false) (e : m y = r) : upd m x v y = r := (if_neg (fun q => by rw [q] at h; simp at h)).trans e
theorem setF_miss {m : Loc} {T : Nat} {y : Str} {r : Option Value} (h : (y == floorKey) = false) (e : m y = r) : setF m T y = r := (setF_get h).trans e
theorem setF_str {m : Loc} {T : Nat} {x : String} : setF m T (Str.ofString x) = if x = "" then some (.int T 0) else m (Str.ofString x) := by
  by_cases h : x = ""
  · rw [if_pos h, h]; exact if_pos rfl
  · rw [if_neg h]; exact if_neg (fun e => h (by unfold floorKey at e; rwa [ofString_inj] at e))
theorem flo_updK {m : Loc} {x : String} {v : Value} : flo (upd m (Str.ofString x) v) = if x = "" then (match v with | .int i _ => i.toNat | _ => 0) else flo m := by
  split
  · rename_i h
    unfold flo upd floorKey; rw [h, if_pos rfl]; cases v <;> rfl
  · rename_i h; exact flo_upd (by rw [beq_eq_false_iff_ne]; unfold floorKey; rw [ne_eq, ofString_inj]; exact h)
section
variable {α β : Type} {prog : Program} {w : World} {g0 : Cx} {A : Around} {E : Value → Shared → Prop} {h₀ : Heap} {L : Addr} {m : Loc} {N : Led} {env : Env}
theorem WB.holding {vs : List Value} {t : Sem α} {Q : α → Loc → Led → Prop} (h : WB g0 A E h₀ L m N t Q) : WB g0 A E h₀ L m N (holding vs t) Q :=
  ⟨fun s I => wpAny_holding (h.run s I)⟩
theorem WB.operate {vs : List Value} {t : Sem Value} {Q : Value → Loc → Led → Prop} (h : WB g0 A E h₀ L m N t Q) : WB g0 A E h₀ L m N (operate vs t) Q :=
  ⟨fun s I => wpAny_operateT (h.run s I)⟩
theorem WB.standAt {p : Pos} {Q : Unit → Loc → Led → Prop} (h : Q () m N) : WB g0 A E h₀ L m N (standAt p) Q :=
  ⟨fun s I => wpAny_standAt ⟨m, N, I, .refl .., h⟩⟩
theorem WB.rule {p : String} {Q : Unit → Loc → Led → Prop} (h : Q () m N) : WB g0 A E h₀ L m N (rule p) Q :=
  ⟨fun s I => wpAny_rule ⟨m, N, I, .refl .., h⟩⟩
theorem WB.point {Q : Unit → Loc → Led → Prop} (h : Q () m N) : WB g0 A E h₀ L m N point Q :=
  ⟨fun s I => wpAny_point ⟨m, N, I, .refl .., h⟩⟩
theorem WB.bindName {x : Str} {v : Value} {Q : Unit → Loc → Led → Prop} (h : WB g0 A E h₀ L m N (storeName env x v) Q) : WB g0 A E h₀ L m N (bindName env x v) Q :=
  ⟨fun s I => wpAny_bindName (h.run s I)⟩
theorem WB.bpure {a : α} {f : α → Sem β} {Q : β → Loc → Led → Prop} (h : WB g0 A E h₀ L m N (f a) Q) : WB g0 A E h₀ L m N ((Pure.pure a : Sem α) >>= f) Q :=
  WB.bind (WB.pure h)
theorem WB.at_ {p : Pos} {f : Unit → Sem β} {Q : β → Loc → Led → Prop} (h : WB g0 A E h₀ L m N (f ()) Q) : WB g0 A E h₀ L m N (PySem.standAt p >>= f) Q :=
  WB.bind (WB.standAt h)
theorem ex_nil {Q : Flow → Loc → Led → Prop} (h : Q .next m N) : WB g0 A E h₀ L m N (execs [] env) Q := WB.pure h
theorem ex_cons {st : Stmt} {rest : List Stmt} {Q : Flow → Loc → Led → Prop}
    (h : WB g0 A E h₀ L m N (exec st env) fun f m' N' => match f with | .next => WB g0 A E h₀ L m' N' (execs rest env) Q | f => Q f m' N') :
    WB g0 A E h₀ L m N (execs (st :: rest) env) Q := by
  rw [execs_cons]
  refine WB.bind (h.mono fun f m' N' q => ?_)
  cases f <;> first | exact q | exact WB.pure q
theorem execs_append (a b : List Stmt) : execs (a ++ b) env = (do match ← execs a env with | .next => execs b env | f => pure f) := by
  induction a with
  | nil => rfl
  | cons s r ih =>
    rw [List.cons_append, execs_cons, execs_cons, ih]
    rw [bind_assoc]
    congr 1
    funext f
    cases f <;> rfl
theorem ex_append {a b : List Stmt} {Q : Flow → Loc → Led → Prop}
    (h : WB g0 A E h₀ L m N (execs a env) fun f m' N' => match f with | .next => WB g0 A E h₀ L m' N' (execs b env) Q | f => Q f m' N') :
    WB g0 A E h₀ L m N (execs (a ++ b) env) Q := by
  rw [execs_append]
  refine WB.bind (h.mono fun f m' N' q => ?_)
  cases f <;> first | exact q | exact WB.pure q
variable {cn : Str} {cs : Scope} {a0 : Addr} {ccd : Value} {cl : List (Str × Addr)}
theorem ex_assign {x : Str} {px pos : Pos} {value : Expr} {rest : List Stmt} {Q : Flow → Loc → Led → Prop}
    (h : WB g0 A E h₀ L m N (eval value env) fun v m' N' => WB g0 A E h₀ L m' N' (storeName env x v) fun _ m'' N'' => WB g0 A E h₀ L m'' N'' (execs rest env) Q)
    (hs : swapsWith value (some (.Name x px)) pos.line env = pure false := by rfl) :
    WB g0 A E h₀ L m N (execs (.Assign [.Name x px] value pos :: rest) env) Q := by
  refine ex_cons ?_
  rw [exec_Assign_Name _ _ _ _ _ hs]
  exact WB.at_ (WB.bind (h.mono fun v m' N' q => WB.at_ (WB.bind (WB.bindName (q.mono fun _ m'' N'' q' => WB.pure q')))))
theorem ex_assignL {x : Str} {px pos : Pos} {value : Expr} {rest : List Stmt} {Q : Flow → Loc → Led → Prop}
    (hk : cs.kind = .function) (hx : cs.names.lookup x = some .local)
    (h : WB g0 A E h₀ L m N (eval value (envX cn cs L a0 ccd cl)) fun v m' N' => WB g0 A E h₀ L (upd m' x v) N' (execs rest (envX cn cs L a0 ccd cl)) Q)
    (hs : swapsWith value (some (.Name x px)) pos.line (envX cn cs L a0 ccd cl) = pure false := by rfl) (hfk : (x == floorKey) = false := by decide) :
    WB g0 A E h₀ L m N (execs (.Assign [.Name x px] value pos :: rest) (envX cn cs L a0 ccd cl)) Q :=
  ex_assign (h.mono fun v m' N' q => WB.local hk hx q hfk) hs
theorem ex_augL {x : Str} {px pos : Pos} {op : Operator} {value : Expr} {old : Value} {rest : List Stmt} {Q : Flow → Loc → Led → Prop}
    (hk : cs.kind = .function) (hx : cs.names.lookup x = some .local) (hv : m x = some old)
    (h : WB g0 A E h₀ L m N (eval value (envX cn cs L a0 ccd cl)) fun v m' N' => WB g0 A E h₀ L m' N' (inplaceOp op old v) fun r m'' N'' =>
      WB g0 A E h₀ L (upd m'' x r) N'' (execs rest (envX cn cs L a0 ccd cl)) Q) (hfk : (x == floorKey) = false := by decide) :
    WB g0 A E h₀ L m N (execs (.AugAssign (.Name x px) op value pos :: rest) (envX cn cs L a0 ccd cl)) Q := by
  refine ex_cons ?_
  rw [exec_AugAssign_Name]
  refine WB.at_ (WB.bind ?_)
  refine ⟨fun s I => wpAny_loadName_local hk hx I.fr.ns (strip_at hv hfk) ⟨m, N, I, .refl .., ?_⟩⟩
  exact WB.bind (WB.holding (h.mono fun v m' N' q => WB.at_ (WB.bind (WB.operate (q.mono fun r m'' N'' q' => WB.at_ (WB.bind (WB.bindName (WB.local hk hx (WB.pure q') hfk))))))))
theorem ex_if {test : Expr} {body orelse rest : List Stmt} {pos : Pos} {Q : Flow → Loc → Led → Prop}
    (h : WB g0 A E h₀ L m N (isTrue test env (eval test env)) fun b m' N' => WB g0 A E h₀ L m' N' (execs ((if b then body else orelse) ++ rest) env) Q) :
    WB g0 A E h₀ L m N (execs (.If test body orelse pos :: rest) env) Q := by
  rw [execs_cons, exec_If]
  rw [bind_assoc]
  refine WB.at_ ?_
  rw [bind_assoc]
  refine WB.bind (h.mono fun b m' N' q => ?_)
  rw [execs_append] at q
  cases b <;> exact q
theorem if_t1 {b : Bool} {x y r : List Stmt} {Q : Flow → Loc → Led → Prop} (e : b = true) (h : WB g0 A E h₀ L m N (execs (x ++ r) env) Q) : WB g0 A E h₀ L m N (execs ((if b = true then x else y) ++ r) env) Q := by subst e; exact h
theorem if_t2 {b : Bool} {x y : List Stmt} {Q : Flow → Loc → Led → Prop} (e : b = true) (h : WB g0 A E h₀ L m N (execs x env) Q) : WB g0 A E h₀ L m N (execs (if b = true then x else y) env) Q := by subst e; exact h
theorem if_t3 {b : Bool} {x y : Expr} {Q : Value → Loc → Led → Prop} (e : b = true) (h : WB g0 A E h₀ L m N (eval x env) Q) : WB g0 A E h₀ L m N (eval (if b = true then x else y) env) Q := by subst e; exact h
theorem if_t4 {b : Bool} {x y : Prop} (e : b = true) (h : x) : if b = true then x else y := by subst e; exact h
theorem if_f1 {b : Bool} {x y r : List Stmt} {Q : Flow → Loc → Led → Prop} (e : b = false) (h : WB g0 A E h₀ L m N (execs (y ++ r) env) Q) : WB g0 A E h₀ L m N (execs ((if b = true then x else y) ++ r) env) Q := by subst e; exact h
theorem if_f2 {b : Bool} {x y : List Stmt} {Q : Flow → Loc → Led → Prop} (e : b = false) (h : WB g0 A E h₀ L m N (execs y env) Q) : WB g0 A E h₀ L m N (execs (if b = true then x else y) env) Q := by subst e; exact h
theorem if_f3 {b : Bool} {x y : Expr} {Q : Value → Loc → Led → Prop} (e : b = false) (h : WB g0 A E h₀ L m N (eval y env) Q) : WB g0 A E h₀ L m N (eval (if b = true then x else y) env) Q := by subst e; exact h
theorem WB.cm {α : Type} {m' : Loc} {t : Sem α} {Q : α → Loc → Led → Prop} (e : m = m') (h : WB g0 A E h₀ L m' N t Q) : WB g0 A E h₀ L m N t Q := e ▸ h
theorem ex_ret {e : Expr} {pos : Pos} {rest : List Stmt} {Q : Flow → Loc → Led → Prop}
    (h : WB g0 A E h₀ L m N (eval e env) fun v m' N' => Q (.ret v) m' N') : WB g0 A E h₀ L m N (execs (.Return (some e) pos :: rest) env) Q := by
  refine ex_cons ?_
  rw [exec_Return_some]
  exact WB.at_ (WB.bind (h.mono fun v m' N' q => WB.pure q))
theorem ex_ret0 {pos : Pos} {rest : List Stmt} {Q : Flow → Loc → Led → Prop}
    (h : Q (.ret .none) m N) : WB g0 A E h₀ L m N (execs (.Return none pos :: rest) env) Q := by
  refine ex_cons ?_
  rw [exec_Return_none]
  exact WB.at_ (WB.pure h)
theorem ex_break {pos : Pos} {rest : List Stmt} {Q : Flow → Loc → Led → Prop}
    (h : Q .brk m N) : WB g0 A E h₀ L m N (execs (.Break pos :: rest) env) Q :=
  ex_cons (WB.at_ (WB.pure h))
theorem e_int {i : Int} {k : Nat} {pos : Pos} {Q : Value → Loc → Led → Prop} (h : ∀ t, Q (.int i t) m N) : WB g0 A E h₀ L m N (eval (.Constant (.int i) k pos) env) Q :=
  by with_reducible exact WB.tok (fun s Q' E' q => wpAny_Constant_int (q _ _)) h
theorem e_str {x : Str} {k : Nat} {pos : Pos} {Q : Value → Loc → Led → Prop} (h : ∀ t, Q (.str x t) m N) : WB g0 A E h₀ L m N (eval (.Constant (.str x) k pos) env) Q :=
  by with_reducible exact WB.tok (fun s Q' E' q => Calls.Constant_str (q _ _)) h
theorem e_bytes {x : List UInt8} {k : Nat} {pos : Pos} {Q : Value → Loc → Led → Prop} (h : ∀ t, Q (.bytes x.toArray t) m N) : WB g0 A E h₀ L m N (eval (.Constant (.bytes x) k pos) env) Q :=
  WB.tok (f := fun t => .bytes x.toArray t) (fun s Q' E' q => fun _ _ _ => q s.toks (s.toks + 1)) h
theorem e_bool {b : Bool} {k : Nat} {pos : Pos} {Q : Value → Loc → Led → Prop} (h : Q (.bool b) m N) : WB g0 A E h₀ L m N (eval (.Constant (.bool b) k pos) env) Q := WB.pure h
theorem e_none {k : Nat} {pos : Pos} {Q : Value → Loc → Led → Prop} (h : Q .none m N) : WB g0 A E h₀ L m N (eval (.Constant .none k pos) env) Q := WB.pure h
theorem e_local {x : Str} {pos : Pos} {v : Value} {Q : Value → Loc → Led → Prop} (hk : cs.kind = .function) (hx : cs.names.lookup x = some .local) (hv : m x = some v) (h : Q v m N)
    (hd : (x == ("__debug__" : Str)) = false := by decide) (hfk : (x == floorKey) = false := by decide) : WB g0 A E h₀ L m N (eval (.Name x pos) (envX cn cs L a0 ccd cl)) Q :=
  ⟨fun s I => nameX_L I.fr (strip_at hv hfk) ⟨m, N, I, .refl .., h⟩ hk hx hd⟩
theorem e_bin {l r : Expr} {op : Operator} {pos : Pos} {Q : Value → Loc → Led → Prop}
    (h : WB g0 A E h₀ L m N (eval l env) fun a m' N' => WB g0 A E h₀ L m' N' (eval r env) fun b m'' N'' => WB g0 A E h₀ L m'' N'' (binaryOp op a b) Q) :
    WB g0 A E h₀ L m N (eval (.BinOp l op r pos) env) Q := by
  rw [eval_BinOp]
  exact WB.bind (h.mono fun a m' N' q => WB.bind (WB.holding (q.mono fun b m'' N'' q' => WB.at_ (WB.operate q'))))
theorem e_un {x : Expr} {op : UnaryOp} {pos : Pos} {Q : Value → Loc → Led → Prop}
    (h : WB g0 A E h₀ L m N (eval x env) fun a m' N' => WB g0 A E h₀ L m' N' (unaryOp op a) Q) :
    WB g0 A E h₀ L m N (eval (.UnaryOp op x pos) env) Q := by
  rw [arm_eval_UnaryOp]
  exact WB.bind (h.mono fun a m' N' q => WB.at_ (WB.holding q))
theorem e_cmp {l r : Expr} {op : CmpOp} {pos : Pos} {Q : Value → Loc → Led → Prop}
    (h : WB g0 A E h₀ L m N (eval l env) fun a m' N' => WB g0 A E h₀ L m' N' (eval r env) fun b m'' N'' => WB g0 A E h₀ L m'' N'' (compareOp op a b) Q)
    (hm : behindInMarks op r = false := by with_unfolding_all rfl) :
    WB g0 A E h₀ L m N (eval (.Compare l [op] [r] pos) env) Q := by
  rw [eval_Compare1, markedBehindIn_of_false hm]
  exact WB.bind (h.mono fun a m' N' q => WB.bind (WB.holding (q.mono fun b m'' N'' q' => WB.at_ (WB.operate q'))))
theorem e_ifexp {t b o : Expr} {pos : Pos} {Q : Value → Loc → Led → Prop}
    (h : WB g0 A E h₀ L m N (isTrue t env (eval t env)) fun c m' N' => WB g0 A E h₀ L m' N' (eval (if c then b else o) env) Q) :
    WB g0 A E h₀ L m N (eval (.IfExp t b o pos) env) Q := by
  rw [arm_eval_IfExp]
  refine WB.bind (h.mono fun c m' N' q => ?_)
  cases c <;> exact q
theorem t_cmp {l r : Expr} {op : CmpOp} {pos : Pos} {whole : Sem Value} {Q : Bool → Loc → Led → Prop}
    (h : WB g0 A E h₀ L m N (eval l env) fun a m' N' => WB g0 A E h₀ L m' N' (eval r env) fun b m'' N'' => WB g0 A E h₀ L m'' N'' (compareOp op a b) fun c m3 N3 => WB g0 A E h₀ L m3 N3 (truthy c) Q)
    (hm : behindInMarks op r = false := by with_unfolding_all rfl) :
    WB g0 A E h₀ L m N (isTrue (.Compare l [op] [r] pos) env whole) Q := by
  rw [isTrue_Compare1, markedBehindIn_of_false hm]
  exact WB.bind (h.mono fun a m' N' q => WB.bind (WB.holding (q.mono fun b m'' N'' q' => WB.at_ (WB.bind (WB.operate (q'.mono fun c m3 N3 q3 => WB.holding q3))))))
theorem t_not {x : Expr} {pos : Pos} {whole : Sem Value} {Q : Bool → Loc → Led → Prop}
    (h : WB g0 A E h₀ L m N (isTrue x env (eval x env)) fun b m' N' => Q (!b) m' N') : WB g0 A E h₀ L m N (isTrue (.UnaryOp .Not x pos) env whole) Q := by
  rw [arm_isTrue_UnaryOp]
  exact WB.bind (h.mono fun b m' N' q => WB.pure q)
theorem t_or_cons {x y : Expr} {r : List Expr} {Q : Bool → Loc → Led → Prop}
    (h : WB g0 A E h₀ L m N (isTrue x env (eval x env)) fun b m' N' => match b with | true => Q true m' N' | false => WB g0 A E h₀ L m' N' (allTrue .Or (y :: r) env) Q) :
    WB g0 A E h₀ L m N (allTrue .Or (x :: y :: r) env) Q := by
  rw [arm_allTrue_cons]
  refine WB.bind (h.mono fun b m' N' q => ?_)
  cases b
  · exact q
  · exact WB.pure q
theorem t_or_one {x : Expr} {Q : Bool → Loc → Led → Prop}
    (h : WB g0 A E h₀ L m N (isTrue x env (eval x env)) fun b m' N' => Q b m' N') :
    WB g0 A E h₀ L m N (allTrue .Or [x] env) Q := by
  rw [arm_allTrue_cons]
  refine WB.bind (h.mono fun b m' N' q => ?_)
  cases b
  · exact WB.pure q
  · exact WB.pure q
theorem t_or {vs : List Expr} {pos : Pos} {whole : Sem Value} {Q : Bool → Loc → Led → Prop}
    (h : WB g0 A E h₀ L m N (allTrue .Or vs env) Q) : WB g0 A E h₀ L m N (isTrue (.BoolOp .Or vs pos) env whole) Q := h
theorem t_name {x : Str} {p : Pos} {Q : Bool → Loc → Led → Prop}
    (h : WB g0 A E h₀ L m N (eval (.Name x p) env) fun v m' N' => WB g0 A E h₀ L m' N' (truthy v) Q) : WB g0 A E h₀ L m N (isTrue (.Name x p) env (eval (.Name x p) env)) Q :=
  WB.bind (h.mono fun v m' N' q => WB.at_ (WB.holding q))
theorem t_call {f : Expr} {as : List Expr} {ks : List Keyword} {p : Pos} {Q : Bool → Loc → Led → Prop}
    (h : WB g0 A E h₀ L m N (eval (.Call f as ks p) env) fun v m' N' => WB g0 A E h₀ L m' N' (truthy v) Q) : WB g0 A E h₀ L m N (isTrue (.Call f as ks p) env (eval (.Call f as ks p) env)) Q :=
  WB.bind (h.mono fun v m' N' q => WB.at_ (WB.holding q))
theorem truthy_b {b : Bool} {Q : Bool → Loc → Led → Prop} (h : Q b m N) : WB g0 A E h₀ L m N (truthy (.bool b)) Q := by with_reducible exact WB.still (fun s Q' E' q => wpAny_truthy_bool (q _)) h
theorem truthy_i {i : Int} {t : Tok} {Q : Bool → Loc → Led → Prop} (h : Q (i != 0) m N) : WB g0 A E h₀ L m N (truthy (.int i t)) Q := by with_reducible exact WB.still (fun s Q' E' q => P.truthy_int (q _)) h
section
variable {a b : Int} {t u : Tok} {Q : Value → Loc → Led → Prop}
theorem i_add (h : ∀ k, Q (.int (a + b) k) m N) : WB g0 A E h₀ L m N (binaryOp .Add (.int a t) (.int b u)) Q := by with_reducible exact WB.tok (f := fun k => .int (a + b) k) (fun s Q' E' q => P.add_int (q _ _)) h
theorem i_iadd (h : ∀ k, Q (.int (a + b) k) m N) : WB g0 A E h₀ L m N (inplaceOp .Add (.int a t) (.int b u)) Q := by with_reducible exact WB.tok (f := fun k => .int (a + b) k) (fun s Q' E' q => P.iadd_int (q _ _)) h
theorem i_sub (h : ∀ k, Q (.int (a - b) k) m N) : WB g0 A E h₀ L m N (binaryOp .Sub (.int a t) (.int b u)) Q := by with_reducible exact WB.tok (f := fun k => .int (a - b) k) (fun s Q' E' q => P.sub_int (q _ _)) h
theorem i_isub (h : ∀ k, Q (.int (a - b) k) m N) : WB g0 A E h₀ L m N (inplaceOp .Sub (.int a t) (.int b u)) Q := by with_reducible exact WB.tok (f := fun k => .int (a - b) k) (fun s Q' E' q => P.isub_int (q _ _)) h
theorem i_mul (hm : IntMulOk a b) (h : ∀ k, Q (.int (a * b) k) m N) : WB g0 A E h₀ L m N (binaryOp .Mult (.int a t) (.int b u)) Q := by with_reducible exact WB.tok (f := fun k => .int (a * b) k) (fun s Q' E' q => P.mul_int (q _ _) hm) h
theorem i_shl (h0 : 0 ≤ b) (hz : (Builtin.Int.intBits a : Int) + b ≤ 2 ^ 27) (h : ∀ k, Q (.int (a * 2 ^ b.toNat) k) m N) : WB g0 A E h₀ L m N (binaryOp .LShift (.int a t) (.int b u)) Q := by with_reducible exact WB.tok (f := fun k => .int (a * 2 ^ b.toNat) k) (fun s Q' E' q => lshift_int h0 hz (q _ _)) h
theorem i_ishl (h0 : 0 ≤ b) (hz : (Builtin.Int.intBits a : Int) + b ≤ 2 ^ 27) (h : ∀ k, Q (.int (a * 2 ^ b.toNat) k) m N) : WB g0 A E h₀ L m N (inplaceOp .LShift (.int a t) (.int b u)) Q := by with_reducible exact WB.tok (f := fun k => .int (a * 2 ^ b.toNat) k) (fun s Q' E' q => ilshift_int h0 hz (q _ _)) h
theorem i_shr (h0 : 0 ≤ b) (h : ∀ k, Q (.int (a.fdiv (2 ^ b.toNat)) k) m N) : WB g0 A E h₀ L m N (binaryOp .RShift (.int a t) (.int b u)) Q := by with_reducible exact WB.tok (f := fun k => .int (a.fdiv (2 ^ b.toNat)) k) (fun s Q' E' q => rshift_int h0 (q _ _)) h
theorem i_ishr (h0 : 0 ≤ b) (h : ∀ k, Q (.int (a.fdiv (2 ^ b.toNat)) k) m N) : WB g0 A E h₀ L m N (inplaceOp .RShift (.int a t) (.int b u)) Q := by with_reducible exact WB.tok (f := fun k => .int (a.fdiv (2 ^ b.toNat)) k) (fun s Q' E' q => irshift_int h0 (q _ _)) h
theorem i_and (h : ∀ k, Q (.int (Builtin.bitAnd a b) k) m N) : WB g0 A E h₀ L m N (binaryOp .BitAnd (.int a t) (.int b u)) Q := by with_reducible exact WB.tok (f := fun k => .int (Builtin.bitAnd a b) k) (fun s Q' E' q => and_int (q _ _)) h
theorem i_or (h : ∀ k, Q (.int (Builtin.bitOr a b) k) m N) : WB g0 A E h₀ L m N (binaryOp .BitOr (.int a t) (.int b u)) Q := by with_reducible exact WB.tok (f := fun k => .int (Builtin.bitOr a b) k) (fun s Q' E' q => or_int (q _ _)) h
theorem i_xor (h : ∀ k, Q (.int (Builtin.bitXor a b) k) m N) : WB g0 A E h₀ L m N (binaryOp .BitXor (.int a t) (.int b u)) Q := by with_reducible exact WB.tok (f := fun k => .int (Builtin.bitXor a b) k) (fun s Q' E' q => xor_int (q _ _)) h
theorem i_mod (hb : b ≠ 0) (h : ∀ k, Q (.int (a.fmod b) k) m N) : WB g0 A E h₀ L m N (binaryOp .Mod (.int a t) (.int b u)) Q := by with_reducible exact WB.tok (f := fun k => .int (a.fmod b) k) (fun s Q' E' q => mod_int' hb (q _ _)) h
theorem i_fdiv (hb : b ≠ 0) (hp : Builtin.divisionGoesByPylong a b = false) (h : ∀ k, Q (.int (a.fdiv b) k) m N) : WB g0 A E h₀ L m N (binaryOp .FloorDiv (.int a t) (.int b u)) Q := by with_reducible exact WB.tok (f := fun k => .int (a.fdiv b) k) (fun s Q' E' q => floordiv_int hb (q _ _) (.inl hp)) h
theorem i_pow (h0 : 0 ≤ b) (hz : (Builtin.Int.intBits a : Int) * b ≤ 2 ^ 27) (h : ∀ k, Q (.int (a ^ b.toNat) k) m N) : WB g0 A E h₀ L m N (binaryOp .Pow (.int a t) (.int b u)) Q := by with_reducible exact WB.tok (f := fun k => .int (a ^ b.toNat) k) (fun s Q' E' q => pow_int h0 hz (q _ _)) h
theorem i_ipow (h0 : 0 ≤ b) (hz : (Builtin.Int.intBits a : Int) * b ≤ 2 ^ 27) (h : ∀ k, Q (.int (a ^ b.toNat) k) m N) : WB g0 A E h₀ L m N (inplaceOp .Pow (.int a t) (.int b u)) Q := by with_reducible exact WB.tok (f := fun k => .int (a ^ b.toNat) k) (fun s Q' E' q => ipow_int h0 hz (q _ _)) h
theorem i_neg (h : ∀ k, Q (.int (-a) k) m N) : WB g0 A E h₀ L m N (unaryOp .USub (.int a t)) Q := by with_reducible exact WB.tok (f := fun k => .int (-a) k) (fun s Q' E' q => P.neg_int (q _ _)) h
theorem i_inv (h : ∀ k, Q (.int (-a - 1) k) m N) : WB g0 A E h₀ L m N (unaryOp .Invert (.int a t)) Q := by with_reducible exact WB.tok (f := fun k => .int (-a - 1) k) (fun s Q' E' q => invert_int (q _ _)) h
theorem i_eq (h : Q (.bool (a == b)) m N) : WB g0 A E h₀ L m N (compareOp .Eq (.int a t) (.int b u)) Q := by with_reducible exact WB.still (a := .bool (a == b)) (fun s Q' E' q => P.eq_int (q _)) h
theorem i_ne (h : Q (.bool (a != b)) m N) : WB g0 A E h₀ L m N (compareOp .NotEq (.int a t) (.int b u)) Q := by with_reducible exact WB.still (a := .bool (a != b)) (fun s Q' E' q => P.ne_int (q _)) h
theorem i_lt (h : Q (.bool (decide (a < b))) m N) : WB g0 A E h₀ L m N (compareOp .Lt (.int a t) (.int b u)) Q := by with_reducible exact WB.still (a := .bool (decide (a < b))) (fun s Q' E' q => P.lt_int (q _)) h
theorem i_le (h : Q (.bool (decide (a ≤ b))) m N) : WB g0 A E h₀ L m N (compareOp .LtE (.int a t) (.int b u)) Q := by with_reducible exact WB.still (a := .bool (decide (a ≤ b))) (fun s Q' E' q => P.le_int (q _)) h
theorem i_gt (h : Q (.bool (decide (a > b))) m N) : WB g0 A E h₀ L m N (compareOp .Gt (.int a t) (.int b u)) Q := by with_reducible exact WB.still (a := .bool (decide (a > b))) (fun s Q' E' q => P.gt_int (q _)) h
noncomputable abbrev tupObj (vs : List Value) : Obj := { cls := .type "tuple", data := .seq vs.toArray }
noncomputable abbrev lstObj (vs : List Value) (n : Nat := 0) : Obj := { cls := .type "list", data := .seq vs.toArray n }
theorem c_divmod (hb : b ≠ 0) (hp : Builtin.divisionGoesByPylong a b = false) (h : ∀ r k k', Fresh h₀ L N r → Q (.ref r) m ((r, tupObj [.int (a.fdiv b) k, .int (a.fmod b) k']) :: N)) :
    WB g0 A E h₀ L m N (call (.builtin "divmod") [.int a t, .int b u]) Q := ⟨fun s I => by
  refine divmod_int hb ?_ (.inl hp)
  refine ⟨m, _, I.add (M := [(s.heap.objs.size, tupObj [.int (a.fdiv b) s.toks, .int (a.fmod b) (s.toks + 1)])]) (fun b o' e => Heap.get?_push_of_some _ e) (fun p hp => ?_) (by simp) _ (Nat.le_add_right _ 2), ⟨fun b o' e _ _ _ => Heap.get?_push_of_some _ e, fun p hp => ?_, ?_⟩,
      h _ _ _ ⟨Nat.le_trans I.fr.above (Nat.le_of_lt I.fr.ns.lt), I.fr.ns.lt, fun p hp => Heap.lt_size (I.led p hp).1⟩⟩
  · rw [List.mem_singleton.mp hp]; exact ⟨Heap.get?_push_size _ rfl, Nat.le_refl _⟩
  · rcases List.mem_cons.mp hp with rfl | hp
    · exact .inr (Nat.le_refl _)
    · exact .inl (List.mem_map_of_mem hp)
  · show s.heap.objs.size ≤ (s.heap.push _).objs.size
    rw [Heap.size_push]; exact Nat.le_succ _⟩
theorem c_bitlen (h : ∀ k, Q (.int (Builtin.Int.intBits a) k) m N) : WB g0 A E h₀ L m N (call (.builtin "int.bit_length") [.int a t]) Q := by with_reducible exact WB.tok (f := fun k => .int (Builtin.Int.intBits a) k) (fun s Q' E' q => call_int_bit_length (q _ _)) h
theorem g_bitlen {pl : Sem Bool} {Q : Value × List Value → Loc → Led → Prop} (h : Q (.builtin "int.bit_length", [.int a t]) m N) : WB g0 A E h₀ L m N (getMethod (.int a t) (Str.ofString "bit_length") pl) Q :=
  by with_reducible exact WB.still (fun s Q' E' q => getMethod_int_bit_length (q _)) h
end
theorem sp_cons {x : Sem Value} {rest : List (Bool × Sem Value)} {Q : List Value → Loc → Led → Prop}
    (h : WB g0 A E h₀ L m N x fun v m' N' => WB g0 A E h₀ L m' N' (spliced rest) fun vs m'' N'' => Q (v :: vs) m'' N'') : WB g0 A E h₀ L m N (spliced ((false, x) :: rest)) Q := by
  rw [spliced]
  refine WB.bind (h.mono fun v m' N' q => ?_)
  refine WB.bpure ?_
  exact WB.bind (WB.holding (q.mono fun vs m'' N'' q' => WB.pure q'))
noncomputable def argsWB (g0 : Cx) (A : Around) (E : Value → Shared → Prop) (h₀ : Heap) (L : Addr) (env : Env) : List Expr → (List Value → Loc → Led → Prop) → Loc → Led → Prop
  | [], Q, m, N => Q [] m N
  | e :: r, Q, m, N => WB g0 A E h₀ L m N (eval e env) fun v m' N' => argsWB g0 A E h₀ L env r (fun vs => Q (v :: vs)) m' N'
theorem args_nil {Q : List Value → Loc → Led → Prop} (h : Q [] m N) : argsWB g0 A E h₀ L env [] Q m N := h
theorem args_cons {e : Expr} {r : List Expr} {Q : List Value → Loc → Led → Prop} (h : WB g0 A E h₀ L m N (eval e env) fun v m' N' => argsWB g0 A E h₀ L env r (fun vs => Q (v :: vs)) m' N') :
    argsWB g0 A E h₀ L env (e :: r) Q m N := h
theorem args_mono : ∀ {es : List Expr} {Q Q' : List Value → Loc → Led → Prop} {m : Loc} {N : Led}, argsWB g0 A E h₀ L env es Q m N → (∀ vs m' N', Q vs m' N' → Q' vs m' N') → argsWB g0 A E h₀ L env es Q' m N
  | [], _, _, _, _, h, q => q _ _ _ h
  | _ :: _, _, _, _, _, h, q => args_cons (WB.mono h fun _ _ _ h' => args_mono h' fun _ _ _ => q _ _ _)
noncomputable def plainArg : Expr → Bool
  | .Starred .. => false
  | _ => true
theorem starEach_plain {e : Expr} {r : List Expr} (h : plainArg e = true) : starEach (e :: r) env = (false, eval e env) :: starEach r env := by
  cases e <;> first | rfl | cases h
theorem sp_args {pos : Pos} : ∀ {es : List Expr} {Q : List Value → Loc → Led → Prop} {m : Loc} {N : Led}, es.all plainArg = true → argsWB g0 A E h₀ L env es Q m N →
    WB g0 A E h₀ L m N (spliced (backTo pos (starEach es env))) Q
  | [], Q, m, N, _, h => WB.pure h
  | e :: r, Q, m, N, hp, h => by
    rw [List.all_cons, Bool.and_eq_true] at hp
    rw [starEach_plain hp.1]
    show WB _ _ _ _ _ _ _ (spliced ((false, eval e env) :: backTo pos (starEach r env))) _
    exact sp_cons (WB.mono h fun v m' N' q => sp_args (pos := pos) hp.2 q)
theorem plain_any {pos : Pos} : ∀ {es : List Expr}, es.all plainArg = true → (backTo pos (starEach es env)).any (·.1) = false
  | [], _ => rfl
  | e :: r, hp => by
    rw [List.all_cons, Bool.and_eq_true] at hp
    rw [starEach_plain hp.1]
    show (false || (backTo pos (starEach r env)).any (·.1)) = false
    rw [plain_any hp.2]; rfl
theorem evalArgs_of {f : Value} {pos : Pos} {es : List Expr} {Q : Args → Loc → Led → Prop} (hp : es.all plainArg = true) (h : argsWB g0 A E h₀ L env es (fun vs m' N' => Q ⟨vs, []⟩ m' N') m N) :
    WB g0 A E h₀ L m N (evalArgs f true (backTo pos (starEach es env)) []) Q := by
  have hs := sp_args (pos := pos) hp h
  cases es with
  | nil =>
    exact ⟨fun s I => evalArgs_nil3 ⟨m, N, I, .refl .., h⟩⟩
  | cons e r =>
    rw [List.all_cons, Bool.and_eq_true] at hp
    rw [starEach_plain hp.1] at hs ⊢
    exact ⟨fun s I => Calls.evalArgs_plain (wpAny_mono (hs.run s I) (fun vs s' q => q) fun _ _ x => x)⟩
theorem call_b {pos : Pos} {id : String} {first : List Value} {es : List Expr} {Q : Value → Loc → Led → Prop} (hp : es.all plainArg = true)
    (h : argsWB g0 A E h₀ L env es (fun vs m' N' => WB g0 A E h₀ L m' N' (call (.builtin id) (first ++ vs)) Q) m N) :
    WB g0 A E h₀ L m N (callWith pos (.builtin id) first (backTo pos (starEach es env)) []) Q := by
  unfold callWith
  refine WB.bind (WB.holding ((evalArgs_of (Q := fun a m' N' => WB g0 A E h₀ L m' N' (call (.builtin id) (first ++ a.pos) a.kw) Q) hp h).mono fun a m' N' q => WB.at_ ?_))
  simp only [plain_any hp, List.any_nil, Bool.or_false]
  refine WB.bpure ?_
  exact WB.bind (q.mono fun r m'' N'' q' => WB.bind (WB.holding (WB.point (WB.pure q'))))
theorem WB.keep {vs : List Value} {t : Sem α} {Q : α → Loc → Led → Prop} (h : WB g0 A E h₀ L m N t Q) : WB g0 A E h₀ L m N (t.keep vs) Q :=
  ⟨fun s I => Calls.wpAny_keep (h.run s I)⟩
theorem call_f {pos : Pos} {f : Addr} {fo : Obj} {fd : FuncData} {es : List Expr} {Q : Value → Loc → Led → Prop} (hp : es.all plainArg = true) (hd : fo.data = .func fd)
    (h : argsWB g0 A E h₀ L env es (fun vs m' N' => At h₀ N' f fo ∧ WB g0 A E h₀ L m' N' (call (.ref f) vs) Q) m N) :
    WB g0 A E h₀ L m N (callWith pos (.ref f) [] (backTo pos (starEach es env)) []) Q := by
  unfold callWith
  refine WB.bind (WB.holding ((evalArgs_of (Q := fun a m' N' => At h₀ N' f fo ∧ WB g0 A E h₀ L m' N' (call (.ref f) ([] ++ a.pos) a.kw) Q) hp h).mono fun a m' N' q => WB.at_ ?_))
  obtain ⟨hat, q⟩ := q
  have tail : ∀ {t : Sem Value}, WB g0 A E h₀ L m' N' t Q → WB g0 A E h₀ L m' N' (t >>= fun r => PySem.holding [r] PySem.point >>= fun _ => Pure.pure r) Q :=
    fun ht => WB.bind (ht.mono fun r m'' N'' q' => WB.bind (WB.holding (WB.point (WB.pure q'))))
  simp only [plain_any hp, List.any_nil, Bool.or_false]
  refine WB.bind (α := Keeper) ?_
  refine WB.mono (Q := fun k m'' N'' => k = Keeper.frame ∧ m'' = m' ∧ N'' = N') ⟨fun s I => ?_⟩ fun k m'' N'' e => ?_
  · unfold keeperOf
    refine wpAny_bind (wpAny_load (I.at hat) ?_)
    rw [hd]
    exact wpAny_pure ⟨m', N', I, .refl .., rfl, rfl, rfl⟩
  · refine anE3 e fun eq_0 eq_1 eq_2 => ?_
    clear e
    subst eq_0
    subst eq_1
    subst eq_2
    dsimp only
    split <;> first | exact tail q | exact tail (by unfold callMarked; exact WB.keep q)
theorem e_call_name {x : Str} {p pos : Pos} {es : List Expr} {Q : Value → Loc → Led → Prop}
    (h : WB g0 A E h₀ L m N (eval (.Name x p) env) fun f m' N' => WB g0 A E h₀ L m' N' (callWith pos f [] (backTo pos (starEach es env)) []) Q) :
    WB g0 A E h₀ L m N (eval (.Call (.Name x p) es [] pos) env) Q := by
  rw [arm_eval_Call_Name']
  exact WB.bind (h.mono fun f m' N' q => q)
noncomputable def IX (cs : Scope) (m : Loc) (e : Expr) (z : Int) : Prop := ∀ {g0 : Cx} {A : Around} {E : Value → Shared → Prop} {h₀ : Heap} {L : Addr} {N : Led} {cn : Str} {a0 : Addr} {ccd : Value} {cl : List (Str × Addr)} {Q : Value → Loc → Led → Prop}, cs.kind = .function → (∀ t, Q (.int z t) m N) → WB g0 A E h₀ L m N (eval e (envX cn cs L a0 ccd cl)) Q
theorem IX.loc {x : Str} {p : Pos} {z : Int} {t : Tok} (hx : cs.names.lookup x = some .local) (hv : m x = some (.int z t)) (hd : (x == ("__debug__" : Str)) = false := by decide) (hf : (x == floorKey) = false := by decide) : IX cs m (.Name x p) z := fun hk q => e_local hk hx hv (q _) hd hf
theorem IX.lit {i : Int} {k : Nat} {p : Pos} : IX cs m (.Constant (.int i) k p) i := fun _ q => e_int q
theorem IX.add {l r : Expr} {p : Pos} {a b : Int} (h : IX cs m l a) (h' : IX cs m r b) : IX cs m (.BinOp l .Add r p) (a + b) := fun hk q => e_bin (h hk fun _ => h' hk fun _ => i_add q)
theorem IX.sub {l r : Expr} {p : Pos} {a b : Int} (h : IX cs m l a) (h' : IX cs m r b) : IX cs m (.BinOp l .Sub r p) (a - b) := fun hk q => e_bin (h hk fun _ => h' hk fun _ => i_sub q)
theorem IX.and {l r : Expr} {p : Pos} {a b : Int} (h : IX cs m l a) (h' : IX cs m r b) : IX cs m (.BinOp l .BitAnd r p) (Builtin.bitAnd a b) := fun hk q => e_bin (h hk fun _ => h' hk fun _ => i_and q)
theorem IX.or {l r : Expr} {p : Pos} {a b : Int} (h : IX cs m l a) (h' : IX cs m r b) : IX cs m (.BinOp l .BitOr r p) (Builtin.bitOr a b) := fun hk q => e_bin (h hk fun _ => h' hk fun _ => i_or q)
theorem IX.xor {l r : Expr} {p : Pos} {a b : Int} (h : IX cs m l a) (h' : IX cs m r b) : IX cs m (.BinOp l .BitXor r p) (Builtin.bitXor a b) := fun hk q => e_bin (h hk fun _ => h' hk fun _ => i_xor q)
theorem IX.neg {l : Expr} {p : Pos} {a : Int} (h : IX cs m l a) : IX cs m (.UnaryOp .USub l p) (-a) := fun hk q => e_un (h hk fun _ => i_neg q)
theorem IX.inv {l : Expr} {p : Pos} {a : Int} (h : IX cs m l a) : IX cs m (.UnaryOp .Invert l p) (-a - 1) := fun hk q => e_un (h hk fun _ => i_inv q)
theorem e_ix {e : Expr} {z : Int} {Q : Value → Loc → Led → Prop} (hk : cs.kind = .function) (hi : IX cs m e z) (h : ∀ t, Q (.int z t) m N) : WB g0 A E h₀ L m N (eval e (envX cn cs L a0 ccd cl)) Q := hi hk h
noncomputable def AX (cs : Scope) (m : Loc) (es : List Expr) (F : (List Value → Prop) → Prop) : Prop := ∀ {g0 : Cx} {A : Around} {E : Value → Shared → Prop} {h₀ : Heap} {L : Addr} {N : Led} {cn : Str} {a0 : Addr} {ccd : Value} {cl : List (Str × Addr)} {Q : List Value → Loc → Led → Prop}, cs.kind = .function → F (fun vs => Q vs m N) → argsWB g0 A E h₀ L (envX cn cs L a0 ccd cl) es Q m N
theorem AX.nil : AX cs m [] fun Q => Q [] := fun _ h => h
theorem AX.loc {x : Str} {p : Pos} {v : Value} {es : List Expr} {F : (List Value → Prop) → Prop} (hx : cs.names.lookup x = some .local) (hv : m x = some v) (r : AX cs m es F) (hd : (x == ("__debug__" : Str)) = false := by decide) (hf : (x == floorKey) = false := by decide) : AX cs m (.Name x p :: es) fun Q => F fun vs => Q (v :: vs) := fun hk h => args_cons (e_local hk hx hv (r hk h) hd hf)
theorem AX.int {e : Expr} {z : Int} {es : List Expr} {F : (List Value → Prop) → Prop} (h : IX cs m e z) (r : AX cs m es F) : AX cs m (e :: es) fun Q => ∀ t, F fun vs => Q (.int z t :: vs) := fun hk q => args_cons (h hk fun t => r hk (q t))
theorem args_ax {es : List Expr} {F : (List Value → Prop) → Prop} {Q : List Value → Loc → Led → Prop} (hk : cs.kind = .function) (hi : AX cs m es F) (h : F fun vs => Q vs m N) : argsWB g0 A E h₀ L (envX cn cs L a0 ccd cl) es Q m N := hi hk h
section
variable {l r : Expr} {pos : Pos} {whole : Sem Value} {Q : Bool → Loc → Led → Prop} {a b : Int}
theorem t_xeq (hk : cs.kind = .function) (hl : IX cs m l a) (hr : IX cs m r b) (h : Q (a == b) m N) (hm : behindInMarks .Eq r = false := by with_unfolding_all rfl) : WB g0 A E h₀ L m N (isTrue (.Compare l [.Eq] [r] pos) (envX cn cs L a0 ccd cl) whole) Q := t_cmp (e_ix hk hl fun _ => e_ix hk hr fun _ => i_eq (truthy_b h)) hm
theorem t_xne (hk : cs.kind = .function) (hl : IX cs m l a) (hr : IX cs m r b) (h : Q (a != b) m N) (hm : behindInMarks .NotEq r = false := by with_unfolding_all rfl) : WB g0 A E h₀ L m N (isTrue (.Compare l [.NotEq] [r] pos) (envX cn cs L a0 ccd cl) whole) Q := t_cmp (e_ix hk hl fun _ => e_ix hk hr fun _ => i_ne (truthy_b h)) hm
theorem t_xlt (hk : cs.kind = .function) (hl : IX cs m l a) (hr : IX cs m r b) (h : Q (decide (a < b)) m N) (hm : behindInMarks .Lt r = false := by with_unfolding_all rfl) : WB g0 A E h₀ L m N (isTrue (.Compare l [.Lt] [r] pos) (envX cn cs L a0 ccd cl) whole) Q := t_cmp (e_ix hk hl fun _ => e_ix hk hr fun _ => i_lt (truthy_b h)) hm
theorem t_xle (hk : cs.kind = .function) (hl : IX cs m l a) (hr : IX cs m r b) (h : Q (decide (a ≤ b)) m N) (hm : behindInMarks .LtE r = false := by with_unfolding_all rfl) : WB g0 A E h₀ L m N (isTrue (.Compare l [.LtE] [r] pos) (envX cn cs L a0 ccd cl) whole) Q := t_cmp (e_ix hk hl fun _ => e_ix hk hr fun _ => i_le (truthy_b h)) hm
theorem t_xgt (hk : cs.kind = .function) (hl : IX cs m l a) (hr : IX cs m r b) (h : Q (decide (a > b)) m N) (hm : behindInMarks .Gt r = false := by with_unfolding_all rfl) : WB g0 A E h₀ L m N (isTrue (.Compare l [.Gt] [r] pos) (envX cn cs L a0 ccd cl) whole) Q := t_cmp (e_ix hk hl fun _ => e_ix hk hr fun _ => i_gt (truthy_b h)) hm
end
end
end Mine

end
local macro_rules | `(tactic| kcj_m) => `(tactic| with_reducible first | assumption | exact Mine.upd_hit | (refine Mine.upd_miss (by kernel_rfl!) ?_; kcj_m) | (refine Mine.setF_miss (by kernel_rfl!) ?_; kcj_m))
local macro_rules | `(tactic| kwd_inv) => `(tactic| first | kcj_m | assumption | (simp only [Mine.upd_get, Mine.setF_str, Mine.flo_setF, Mine.flo_updK, Mine.ofString_inj, String.reduceEq, if_true, if_false, reduceIte, List.foldl_cons, List.foldl_nil]; first | done | with_reducible rfl | with_reducible assumption | rfl))
local macro_rules | `(tactic| kct_strs) => `(tactic| first | exact Mine.IX.lit | (refine' Mine.IX.loc ?hx ?hv; (case hx => kernel_rfl!); (case hv => kcj_m)) | apply Mine.IX.add | apply Mine.IX.sub | apply Mine.IX.and | apply Mine.IX.or | apply Mine.IX.xor | apply Mine.IX.neg | apply Mine.IX.inv)
local macro_rules | `(tactic| kat_tups) => `(tactic| first | exact Mine.AX.nil | (refine' Mine.AX.loc ?hx ?hv ?hr; (case hx => kernel_rfl!); (case hv => kcj_m)) | apply Mine.AX.int | kct_strs)
local macro_rules | `(tactic| kas_types) => `(tactic| with_reducible first | (refine' Mine.args_ax ?hk ?ha ?_; (case hk => kernel_rfl!); (case ha => repeat kat_tups); intros) | (refine' Mine.t_xeq ?hk ?hl ?hr ?_; (case hk => kernel_rfl!); (case hl => repeat kct_strs); (case hr => repeat kct_strs)) | (refine' Mine.t_xlt ?hk ?hl ?hr ?_; (case hk => kernel_rfl!); (case hl => repeat kct_strs); (case hr => repeat kct_strs)))
local macro_rules | `(tactic| kcf_m) => `(tactic| with_reducible (refine' Mine.e_ix ?hk ?hi ?_; (case hk => kernel_rfl!); (case hi => repeat kct_strs); intro _))
local macro_rules | `(tactic| tb_rel) => `(tactic| with_reducible first
  | kas_types
  | (refine' Mine.e_local ?hk ?hx ?hv ?_; (case hk => kernel_rfl!); (case hx => kernel_rfl!); (case hv => kwd_inv))
  | kcf_m
  | refine Mine.e_bin ?_
  | refine Mine.e_un ?_
  | refine Mine.args_cons ?_
  | refine Mine.args_nil ?_
  | refine Mine.t_cmp ?_
  | refine Mine.ex_ret ?_
  | refine Mine.i_eq ?_
  | refine Mine.i_ne ?_
  | refine Mine.i_lt ?_
  | refine Mine.i_le ?_
  | refine Mine.i_gt ?_
  | refine Mine.truthy_b ?_
  | refine Mine.truthy_i ?_
  | ((first | refine Mine.e_int ?_ | refine Mine.i_add ?_ | refine Mine.i_iadd ?_ | refine Mine.i_sub ?_ | refine Mine.i_isub ?_ | refine Mine.i_or ?_ | refine Mine.i_and ?_ | refine Mine.i_xor ?_ | refine Mine.i_neg ?_ | refine Mine.i_inv ?_); intro _))

section
open PySem PySem.W PyProof.Rows
namespace Mine
noncomputable def stAt (i : Nat) : Stmt := PySem.Challenge.pw_ti0010_01.main.body.getD i (.Pass default)
noncomputable def paramsOf (i : Nat) : Arguments := match stAt i with | .FunctionDef _ a _ _ _ _ _ _ _ _ => a | _ => default
noncomputable def bodyOf (i : Nat) : List Stmt := match stAt i with | .FunctionDef _ _ b _ _ _ _ _ _ _ => b | _ => []
noncomputable def scopeOf (i : Nat) : Scope := match stAt i with | .FunctionDef _ _ _ _ _ _ s _ _ _ => s | _ => default
noncomputable def hideT (h : Heap) : Heap := (h.hide 47).hide 54
theorem hideT_size (h : Heap) : (hideT h).objs.size = h.objs.size := (Heap.hide_size _ _).trans (Heap.hide_size _ _)
theorem of_hideT {h : Heap} {b : Addr} {o : Obj} (e : (hideT h).get? b = some o) : h.get? b = some o := Heap.of_hide (Heap.of_hide e)
theorem hideT_get {h : Heap} {b : Addr} {o : Obj} (e : h.get? b = some o) (hb : ¬ isTab b) : (hideT h).get? b = some o := by
  unfold hideT
  rw [Heap.hide_ne _ (fun e => hb (.inr e)), Heap.hide_ne _ (fun e => hb (.inl e))]; exact e
theorem hideT_tab {h : Heap} {b : Addr} {o : Obj} (e : (hideT h).get? b = some o) : ¬ isTab b := by
  rintro (rfl | rfl)
  · have := Heap.of_hide e; rw [Heap.hide_self] at this; cases this
  · rw [hideT, Heap.hide_self] at e; cases e
noncomputable def HK (h h' : Heap) : Prop := ∀ b o, h.get? b = some o → ¬ isTab b → h'.get? b = some o
theorem HK.refl (h : Heap) : HK h h := fun _ _ e _ => e
theorem HK.trans {a b c : Heap} (x : HK a b) (y : HK b c) : HK a c := fun q o e n => y q o (x q o e n) n
theorem HK.hide (h : Heap) : HK h (hideT h) := fun _ _ e n => hideT_get e n
noncomputable abbrev fnObj (name : String) (i : Nat) (pm : Value) (f : Addr) : Obj :=
  { cls := .type "function", data := .func (fnX (Str.ofString name) (Str.ofString name) (paramsOf i) (bodyOf i) (scopeOf i) [] .none .none .none pm none (.ref f) .none) }
noncomputable def FnAt (h : Heap) (f : Addr) (i : Nat) (name : String) : Prop := ∃ pm, h.get? (f + 1) = some (fnObj name i pm f) ∧ h.CodeRec (.ref f) (Str.ofString name)
noncomputable def fnTable : List (String × Nat × Nat) := [("_div2n1n", 37, 3), ("_div3n2n", 44, 4), ("_int2digits", 51, 5), ("_digits2int", 58, 6), ("_divmod_pos", 65, 7), ("int_divmod", 72, 8), ("add", 79, 10), ("mul", 86, 11), ("neg", 93, 12), ("sub", 100, 13), ("concat", 107, 14), ("countOf", 114, 15), ("ipow", 121, 16), ("quotedata", 143, 22), ("_quote_periods", 150, 23), ("_fix_eols", 157, 24), ("_law_dots", 162, 26), ("_law_pairs", 167, 27), ("_law_powers", 174, 28), ("_law_products", 181, 29), ("_law_hard", 188, 30)]
noncomputable def biTable : List (String × Value) := [("divmod", .builtin "divmod"), ("len", .builtin "len"), ("sum", .builtin "sum"), ("max", .builtin "max"), ("sorted", .builtin "sorted"), ("chr", .builtin "chr"), ("hasattr", .builtin "hasattr"),
  ("range", .type "range"), ("reversed", .type "reversed"), ("ZeroDivisionError", .type "ZeroDivisionError")]
noncomputable def pat1 : Array Value := #[.int 14 0, .int 4 0, .int 0 0, .int 1 0, .int 1 0, .int 6 0, .int 1 0, .int 16 0, .int 46 0, .int 1 0]
noncomputable def pat3 : Array Value := #[.int 14 0, .int 9 0, .int 4 0, .int 1 0, .int 2 0, .int 16 0, .int 10 0, .int 16 0, .int 13 0, .int 0 0, .int 7 0, .int 7 0, .int 16 0, .int 13 0, .int 16 0, .int 10 0, .int 15 0, .int 18 0,
  .int 5 0, .int 16 0, .int 10 0, .int 15 0, .int 13 0, .int 11 0, .int 16 0, .int 13 0, .int 5 0, .int 5 0, .int 0 0, .int 16 0, .int 10 0, .int 1 0, .int 15 0, .int 2 0, .int 0 0, .int 1 0]
noncomputable def PatAt (h : Heap) (p t : Addr) (src : Value) (fl : Value) (words : Array Value) (kind : Int) : Prop :=
  h.get? p = some { cls := .type "re.Pattern", data := .fields #[src, fl, .int 0 0, .none, .none, .ref t, .int kind 0] } ∧ h.get? t = some { cls := .type "tuple", data := .seq words }
structure Gd (mg mb : Loc) (h : Heap) : Prop where
  g : h.Ns mainGlobals mg
  b : h.Ns builtinsNs mb
  lim : h.NoLimit
  fn : ∀ p ∈ fnTable, mg (Str.ofString p.1) = some (.ref (p.2.1 + 1)) ∧ FnAt h p.2.1 p.2.2 p.1
  bi : ∀ p ∈ biTable, mg (Str.ofString p.1) = none ∧ mb (Str.ofString p.1) = some p.2
  dl : ∃ t, mg (Str.ofString "_DIV_LIMIT") = some (.int 4000 t)
  crlf : ∃ t, mg (Str.ofString "CRLF") = some (.str (Str.ofString "\r\n") t)
  re1 : mg (Str.ofString "_twin_re_1") = some (.ref 127) ∧ ∃ s f, PatAt h 127 126 s f pat1 0
  re2 : mg (Str.ofString "_twin_re_2") = some (.ref 132) ∧ ∃ s f, PatAt h 132 131 s f pat1 1
  re3 : mg (Str.ofString "_twin_re_3") = some (.ref 137) ∧ ∃ s f, PatAt h 137 136 s f pat3 0
  hd1 : CodeHd h 51 47
  hd2 : CodeHd h 58 54
  bmain : ∃ bm ob, mg (Str.ofString "__builtins__") = some (.ref bm) ∧ bm ≠ builtinsNs ∧ bm ≠ mainGlobals ∧ ¬ isTab bm ∧ h.get? bm = some ob ∧ ob.cls = .type "module" ∧ ob.dict = some builtinsNs ∧ ob.data = .plain
  nb : NoneBooked h
theorem nt {b : Addr} (h : (b == 47 || b == 54) = false) : ¬ isTab b := by
  rintro (rfl | rfl) <;> simp at h
noncomputable def isLst (o : Obj) : Prop := o.cls = .type "list" ∧ ∃ xs n, o.data = .seq xs n
noncomputable def HL (h h' : Heap) : Prop := ∀ b o, h.get? b = some o → ¬ isTab b → ¬ isLst o → h'.get? b = some o
theorem HK.hl {h h' : Heap} (x : HK h h') : HL h h' := fun b o e n _ => x b o e n
theorem HL.trans {a b c : Heap} (x : HL a b) (y : HL b c) : HL a c := fun q o e n l => y q o (x q o e n l) n l
theorem Gd.keepsL {mg mb : Loc} {h h' : Heap} (G : Gd mg mb h) (k : HL h h') : Gd mg mb h' := by
  have ns : ∀ {a mm}, h.Ns a mm → ¬ isTab a → h'.Ns a mm := fun ⟨o, es, ep, e, d, r⟩ n => ⟨o, es, ep, k _ _ e n (fun ⟨_, _, _, x⟩ => by rw [d] at x; cases x), d, r⟩
  have cr : ∀ {c : Nat} {q}, h.CodeRec (.ref c) q → ¬ isTab c → h'.CodeRec (.ref c) q := fun ⟨c, o, vs, t, e, g, d, r⟩ n => ⟨c, o, vs, t, e, k _ _ g (by cases e; exact n) (fun ⟨_, _, _, x⟩ => by rw [d] at x; cases x), d, r⟩
  have pt : ∀ {p t s f wd kd}, PatAt h p t s f wd kd → ¬ isTab p → ¬ isTab t → PatAt h' p t s f wd kd := fun ⟨a, b⟩ n n' => ⟨k _ _ a n (fun ⟨x, _⟩ => by simp at x), k _ _ b n' (fun ⟨x, _⟩ => by simp at x)⟩
  refine ⟨ns G.g (nt rfl), ns G.b (nt rfl), ?_, fun p hp => ⟨(G.fn p hp).1, ?_⟩, G.bi, G.dl, G.crlf, ?_, ?_, ?_, ?_, ?_, ?_, let ⟨mc, a, b⟩ := G.nb; ⟨mc, ns a (nt rfl), b⟩⟩
  · refine exE1 G.lim fun mc h_0 => anE2 h_0 fun a b => ?_
    clear h_0
    exact ⟨mc, ns a (nt rfl), b⟩
  · refine exE1 ((G.fn p hp).2) fun pm h_0 => anE2 h_0 fun a b => ?_
    clear h_0
    have n1 : ¬ isTab (p.2.1 + 1) ∧ ¬ isTab p.2.1 := by
      have : ∀ p ∈ fnTable, ((p.2.1 + 1 == 47 || p.2.1 + 1 == 54) || (p.2.1 == 47 || p.2.1 == 54)) = false := by decide
      have := this p hp
      rw [Bool.or_eq_false_iff] at this
      exact ⟨nt this.1, nt this.2⟩
    exact ⟨pm, k _ _ a n1.1 (fun ⟨x, _⟩ => by simp at x), cr b n1.2⟩
  · exact ⟨G.re1.1, exE2 G.re1.2 fun s f b => exI2 s f (pt b (nt rfl) (nt rfl))⟩
  · exact ⟨G.re2.1, exE2 G.re2.2 fun s f b => exI2 s f (pt b (nt rfl) (nt rfl))⟩
  · exact ⟨G.re3.1, exE2 G.re3.2 fun s f b => exI2 s f (pt b (nt rfl) (nt rfl))⟩
  · exact exE9 G.hd1 fun o vs file tf flags tg inF text tt h_0 => anE3 h_0 fun e c r => exI9 o vs file tf flags tg inF text tt ⟨k _ _ e (nt rfl) (fun ⟨x, _⟩ => by rw [c] at x; simp at x), c, r⟩
  · exact exE9 G.hd2 fun o vs file tf flags tg inF text tt h_0 => anE3 h_0 fun e c r => exI9 o vs file tf flags tg inF text tt ⟨k _ _ e (nt rfl) (fun ⟨x, _⟩ => by rw [c] at x; simp at x), c, r⟩
  · exact exE2 G.bmain fun bm ob h_0 => anE7 h_0 fun a b c d e cl r => exI2 bm ob ⟨a, b, c, d, k _ _ e d (fun ⟨x, _⟩ => by rw [cl] at x; simp at x), cl, r⟩
theorem Gd.keeps {mg mb : Loc} {h h' : Heap} (G : Gd mg mb h) (k : HK h h') : Gd mg mb h' := G.keepsL k.hl
structure Ext (h h' : Heap) (new : Led) : Prop where
  keep : HK h h'
  made : ∀ p ∈ new, h'.get? p.1 = some p.2 ∧ h.objs.size ≤ p.1
  nd : (new.map (·.1)).Nodup
  size : h.objs.size ≤ h'.objs.size
structure Room (A : Around) (n : Nat) : Prop where
  handled : A.handled = none
  depth : A.depth + n ≤ 900
  units : A.units + 3 * n ≤ 9000
theorem Room.deeper {A : Around} {n : Nat} (R : Room A (n + 1)) (env : Env) : Room (A.deeper env) n := by
  refine ⟨R.handled, ?_, ?_⟩
  · have := R.depth; show A.depth + 1 + n ≤ 900; omega
  · have := R.units; show A.units + 3 + 3 * n ≤ 9000; omega
theorem Room.le {A : Around} {n k : Nat} (R : Room A n) (h : k ≤ n) : Room A k := by
  have := R.depth; have := R.units
  exact ⟨R.handled, by omega, by omega⟩
structure OkAt (mg mb : Loc) (g0 : Cx) (s : Shared) : Prop where
  gens : s.gens = g0.gens
  os : s.os = g0.os
  tab : TabOK g0 s.heap
  t54 : 54 < s.heap.objs.size
  gd : Gd mg mb s.heap
  pos : 0 < s.toks
noncomputable def Back (g0 : Cx) (h : Heap) (R : Value → Led → Prop) (v : Value) (s' : Shared) : Prop :=
  s'.gens = g0.gens ∧ s'.os = g0.os ∧ TabOK g0 s'.heap ∧ ∃ new, Ext h s'.heap new ∧ R v new
section
variable {prog : Program} {w : World} {g0 : Cx} {A : Around} {E : Value → Shared → Prop} {mg mb : Loc}
theorem binds_floor {binds : List (Str × Value)} (h : ∀ x ∈ binds, x.1 ≠ floorKey) : binds.reverse.lookup floorKey = none := by
  cases e : binds.reverse.lookup floorKey with
  | none => rfl
  | some v => exact absurd rfl (h (floorKey, v) (List.mem_reverse.mp (mem_of_lookup e)))
theorem enterF {name : String} {f i : Nat} {args : List Value} {binds : List (Str × Value)} {R : Value → Led → Prop} {s : Shared} {n : Nat}
    (hf : (name, f, i) ∈ fnTable) (O : OkAt mg mb g0 s) (Ro : Room A (n + 1))
    (hbind : ∀ pm, bindArgs (fnX (Str.ofString name) (Str.ofString name) (paramsOf i) (bodyOf i) (scopeOf i) [] .none .none .none pm none (.ref f) .none) ⟨args, []⟩ = pure binds)
    (hloc : ∀ x ∈ binds, (scopeOf i).names.lookup x.1 = some .local)
    (hcell : ((scopeOf i).names.all fun x => x.2 != .cell) = true)
    (hco : (scopeOf i).isCoroutine = false) (hgen : (scopeOf i).isGenerator = false) (hk : (scopeOf i).kind = .function)
    (h : ∀ L, 54 < L → Gd mg mb (hideT s.heap) → Room (A.deeper (envX (Str.ofString name) (scopeOf i) L (f + 1) (.ref f) [])) n →
      WB g0 (A.deeper (envX (Str.ofString name) (scopeOf i) L (f + 1) (.ref f) [])) (fun _ _ => False) (hideT s.heap) L (setF (fun y => binds.reverse.lookup y) s.toks) []
        (execs (bodyOf i) (envX (Str.ofString name) (scopeOf i) L (f + 1) (.ref f) [])) fun fl m N => R (match fl with | .ret v => v | _ => .none) N)
    (hfk : (scopeOf i).names.lookup floorKey = none := by rfl) :
    wpAny (model g0.prog g0.w) A (call (.ref (f + 1)) args) (Back g0 s.heap R) E s := by
  have nf : (fun y => binds.reverse.lookup y) floorKey = none := binds_floor fun x hx e => by have := hloc x hx; rw [e, hfk] at this; cases this
  refine exE1 ((O.gd.fn _ hf).2) fun pm h_0 => anE2 h_0 fun hfn hcr => ?_
  clear h_0
  refine wpAny_call (codeAny_call_def (fd := fnX (Str.ofString name) (Str.ofString name) (paramsOf i) (bodyOf i) (scopeOf i) [] .none .none .none pm none (.ref f) .none) (body := bodyOf i) (binds := binds)
    (by have := Ro.depth; show A.depth < 1000; omega) hfn rfl O.gd.lim hcr rfl (BindsTo.of_eq (hbind pm)) (fun x hx => ?_) hloc (fun h₁ hns hk₁ => ?_) hco hgen hk)
  · have := List.all_eq_true.mp hcell x hx
    simpa using this
  have hL : 54 < s.heap.objs.size := O.t54
  have I : Inv g0 (hideT s.heap) s.heap.objs.size (setF (fun y => binds.reverse.lookup y) s.toks) [] { s with heap := h₁, toks := s.toks + binds.length } :=
    ⟨O.gens, O.os, O.tab.keeps (fun b o _ e => hk₁ b o e) fun b o e _ => hk₁ b o e, ⟨by rw [strip_setF, strip_none nf]; exact hns, fun b o e => hk₁ b o (of_hideT e), Nat.le_of_eq (hideT_size _)⟩, (fun p hp => nomatch hp), List.nodup_nil, ⟨by rw [hideT_size]; exact hL, fun b hb => by
      cases q : (hideT s.heap).get? b with
      | none => rfl
      | some o => exact absurd hb (hideT_tab q)⟩, by rw [flo_setF]; exact Nat.le_add_right _ _, Nat.lt_of_lt_of_le O.pos (Nat.le_add_right _ _)⟩
  refine WB.runC I (WB.mono (h s.heap.objs.size hL (O.gd.keeps (HK.hide _)) (Ro.deeper _)) fun fl m' N' r s' I' S => ?_)
  refine ⟨I'.gens, I'.os, I'.tab, N', ⟨fun b o e nT => ?_, fun p hp => ⟨(I'.led p hp).1, (S.fresh p hp).elim (fun hm => nomatch hm) fun hg => Nat.le_trans (Nat.le_of_lt hns.lt) hg⟩, I'.nd, ?_⟩, r⟩
  · exact S.keep b o (hk₁ b o e) (Nat.ne_of_lt (Heap.lt_size e)) (fun hm => nomatch hm) nT
  · have h1 := hns.lt
    have h2 := S.size
    exact Nat.le_trans (Nat.le_of_lt h1) h2
theorem enter {name : String} {f i : Nat} {args : List Value} {binds : List (Str × Value)} {R : Value → Led → Prop} {s : Shared} {n : Nat}
    (hf : (name, f, i) ∈ fnTable) (O : OkAt mg mb g0 s) (Ro : Room A (n + 1))
    (hbind : ∀ pm, bindArgs (fnX (Str.ofString name) (Str.ofString name) (paramsOf i) (bodyOf i) (scopeOf i) [] .none .none .none pm none (.ref f) .none) ⟨args, []⟩ = pure binds)
    (hloc : ∀ x ∈ binds, (scopeOf i).names.lookup x.1 = some .local)
    (hcell : ((scopeOf i).names.all fun x => x.2 != .cell) = true)
    (hco : (scopeOf i).isCoroutine = false) (hgen : (scopeOf i).isGenerator = false) (hk : (scopeOf i).kind = .function)
    (h : ∀ L, 54 < L → Gd mg mb (hideT s.heap) → Room (A.deeper (envX (Str.ofString name) (scopeOf i) L (f + 1) (.ref f) [])) n →
      WB g0 (A.deeper (envX (Str.ofString name) (scopeOf i) L (f + 1) (.ref f) [])) (fun _ _ => False) (hideT s.heap) L (fun y => binds.reverse.lookup y) []
        (execs (bodyOf i) (envX (Str.ofString name) (scopeOf i) L (f + 1) (.ref f) [])) fun fl m N => R (match fl with | .ret v => v | _ => .none) N)
    (hfk : (scopeOf i).names.lookup floorKey = none := by rfl) :
    wpAny (model g0.prog g0.w) A (call (.ref (f + 1)) args) (Back g0 s.heap R) E s :=
  enterF hf O Ro hbind hloc hcell hco hgen hk (fun L hL G Rd => (h L hL G Rd).unF (flo_none (binds_floor fun x hx e => by have := hloc x hx; rw [e, hfk] at this; cases this))) hfk
noncomputable def EntB (g0 : Cx) (mg mb : Loc) (name : String) (f i n : Nat) (binds : List (Str × Value)) (R : Value → Led → Prop) (A : Around) (s : Shared) (L : Addr) : Prop :=
  54 < L → Gd mg mb (hideT s.heap) → Room (A.deeper (envX (Str.ofString name) (scopeOf i) L (f + 1) (.ref f) [])) n →
      WB g0 (A.deeper (envX (Str.ofString name) (scopeOf i) L (f + 1) (.ref f) [])) (fun _ _ => False) (hideT s.heap) L (fun y => binds.reverse.lookup y) []
        (execs (bodyOf i) (envX (Str.ofString name) (scopeOf i) L (f + 1) (.ref f) [])) fun fl m N => R (match fl with | .ret v => v | _ => .none) N
theorem WB.callSF {h₀ : Heap} {L : Addr} {m : Loc} {N : Led} {f : Value} {vs : List Value} {R : Value → Led → Prop} {Q : Value → Loc → Led → Prop} (G : Gd mg mb h₀)
    (hs : ∀ s, OkAt mg mb g0 s → (∀ a o, At h₀ N a o → s.heap.get? a = some o) → flo m ≤ s.toks → wpAny (model g0.prog g0.w) A (call f vs) (Back g0 s.heap R) E s)
    (h : ∀ v new, R v new → (∀ p ∈ new, Fresh h₀ L N p.1) → Q v m (new ++ N)) : WB g0 A E h₀ L m N (call f vs) Q := ⟨fun s I => by
  have hsz : h₀.objs.size ≤ s.heap.objs.size := Nat.le_trans I.fr.above (Nat.le_of_lt I.fr.ns.lt)
  refine wpAny_mono (wpAny_toks_of (n := s.toks) (Nat.le_refl _) (hs s ⟨I.gens, I.os, I.tab, Nat.lt_of_lt_of_le I.t54.1 hsz, G.keeps fun b o e _ => I.fr.keep b o e, I.fl.2⟩ (fun a o x => I.at x) I.fl.1)) (fun v s' b => ?_) fun _ _ e => e.2
  obtain ⟨ht, b1, b2, b3, new, X, r⟩ := b
  have nL : ¬ isTab L := fun hb => by
    have := Nat.lt_of_le_of_lt (isTab_le hb) (Nat.lt_of_lt_of_le I.t54.1 I.fr.above)
    exact Nat.lt_irrefl _ this
  have nN : ∀ p ∈ N, ¬ isTab p.1 := fun p hp => (I.led p hp).2.2.2
  have n0 : ∀ b o, h₀.get? b = some o → s'.heap.get? b = some o := fun b o e => by
    by_cases hb : isTab b
    · rw [I.t54.2 b hb] at e; cases e
    · exact X.keep b o (I.fr.keep b o e) hb
  refine ⟨m, new ++ N, ⟨b1, b2, b3, ⟨?_, n0, I.fr.above⟩, fun p hp => ?_, ?_, I.t54, Nat.le_trans I.fl.1 ht, Nat.lt_of_lt_of_le I.fl.2 ht⟩, ⟨fun b o e _ _ nT => X.keep b o e nT, fun p hp => ?_, X.size⟩, h v new r fun p hp => ?_⟩
  · refine exE3 I.fr.ns fun o es ep h_0 => anE2 h_0 fun e rr => ?_
    clear h_0
    exact ⟨o, es, ep, X.keep _ _ e nL, rr⟩
  · rcases List.mem_append.mp hp with hp | hp
    · have := X.made p hp
      have hge := Nat.le_trans hsz this.2
      exact ⟨this.1, Nat.ne_of_gt (Nat.lt_of_lt_of_le I.fr.ns.lt this.2), Heap.get?_none_of_le hge, fun hb => absurd (isTab_le hb) (Nat.not_le.mpr (Nat.lt_of_lt_of_le I.t54.1 hge))⟩
    · exact ⟨X.keep _ _ (I.led p hp).1 (nN p hp), (I.led p hp).2⟩
  · rw [List.map_append]
    refine List.nodup_append.mpr ⟨X.nd, I.nd, fun a ha b hb e => ?_⟩
    subst e
    refine exE1 (List.mem_map.mp ha) fun p h_0 => anE2 h_0 fun hp eq_0 => ?_
    clear h_0
    subst eq_0
    refine exE1 (List.mem_map.mp hb) fun q h_0 => anE2 h_0 fun hq e => ?_
    clear h_0
    have h1 := Heap.lt_size (I.led q hq).1
    have h2 := (X.made p hp).2
    rw [show q.1 = p.1 from e] at h1
    exact absurd h1 (Nat.not_lt.mpr h2)
  · rcases List.mem_append.mp hp with hp | hp
    · exact .inr (X.made p hp).2
    · exact .inl (List.mem_map_of_mem hp)
  · have := (X.made p hp).2
    exact ⟨Nat.le_trans hsz this, Nat.lt_of_lt_of_le I.fr.ns.lt this, fun q hq => Nat.lt_of_lt_of_le (Heap.lt_size (I.led q hq).1) this⟩⟩
theorem WB.callS {h₀ : Heap} {L : Addr} {m : Loc} {N : Led} {f : Value} {vs : List Value} {R : Value → Led → Prop} {Q : Value → Loc → Led → Prop} (G : Gd mg mb h₀)
    (hs : ∀ s, OkAt mg mb g0 s → (∀ a o, At h₀ N a o → s.heap.get? a = some o) → wpAny (model g0.prog g0.w) A (call f vs) (Back g0 s.heap R) E s)
    (h : ∀ v new, R v new → (∀ p ∈ new, Fresh h₀ L N p.1) → Q v m (new ++ N)) : WB g0 A E h₀ L m N (call f vs) Q :=
  WB.callSF G (fun s O a _ => hs s O a) h
end
end Mine

end

section
open PySem PySem.W PyProof.Rows
namespace Mine
noncomputable def TupP (h₀ : Heap) (v : Value) (N : Led) (K : Value → Value → Prop) : Prop := ∃ t va vb k, v = .ref t ∧ At h₀ N t { cls := .type "tuple", data := .seq #[va, vb] k } ∧ K va vb
theorem tupI {h₀ : Heap} {N : Led} {K : Value → Value → Prop} (t : Addr) (va vb : Value) (k : Nat) (x : At h₀ N t { cls := .type "tuple", data := .seq #[va, vb] k }) (q : K va vb) : TupP h₀ (.ref t) N K := ⟨t, va, vb, k, rfl, x, q⟩
noncomputable abbrev LoopP {κ : Type} (J : κ → Loc → Led → Prop) (k : κ) (B : Loc → Led → Prop) (R : Value → Loc → Led → Prop) : Flow → Loc → Led → Prop := fun f m N => match f with
  | .next | .cont => J k m N
  | .brk => B m N
  | .ret v => R v m N
noncomputable abbrev NextP (J : Loc → Led → Prop) : Flow → Loc → Led → Prop := fun f m N => f = .next ∧ J m N
theorem runs_size {M : Model} {Γ : Ctx} {p : Pos} {t : Sem Fin} {fs : List Frame} {s s' : Shared} {e : End} (h : Runs M Γ p t fs s e s') : s.heap.objs.size ≤ s'.heap.objs.size := by
  induction h <;> (try simp only [Shared.setGen, Heap.size_push, Heap.size_after_update] at *) <;> omega
theorem wakes_size {M : Model} {Γ : Ctx} {p : Pos} {g : Nat} {r : Resume} {s s' : Shared} {res : GenResult} (h : Wakes M Γ p g r s res s') : s.heap.objs.size ≤ s'.heap.objs.size := by
  unfold Wakes at h
  split at h
  · exact h.elim
  · split at h
    · obtain ⟨e₁, s₁, hr, _, _, rfl⟩ := h; exact (runs_size hr : (s.setGen g .running).heap.objs.size ≤ s₁.heap.objs.size)
    · rw [h.2]; exact Nat.le_refl _
    · rw [h.2]; exact Nat.le_refl _
  · obtain ⟨e₁, s₁, hr, _, _, rfl⟩ := h; exact (runs_size hr : (s.setGen g .running).heap.objs.size ≤ s₁.heap.objs.size)
  · rw [h.2]; exact Nat.le_refl _
  · rw [h.2]; exact Nat.le_refl _
theorem wp_size {α : Type} (M : Model) (Γ : Ctx) (n : Nat) (t : Sem α) : ∀ (Q : α → Pos → Shared → Prop) (E : Value → Pos → Shared → Prop) (p : Pos) (s : Shared), n ≤ s.heap.objs.size → Sem.wp M Γ t Q E p s →
    Sem.wp M Γ t (fun a p' s' => n ≤ s'.heap.objs.size ∧ Q a p' s') (fun e p' s' => E e p' s') p s := by
  induction t with
  | pure a => intro Q E p s hn h; exact ⟨hn, h⟩
  | raise e => intro Q E p s hn h; exact h
  | unsupported _ | finish _ | register _ _ | yield _ _ _ _ | fork _ _ | await _ _ _ _ _ => intro Q E p s _ h; exact h
  | load a _ k ih => intro Q E p s hn h; obtain ⟨o, ho, h⟩ := h; exact ⟨o, ho, ih o Q E p s hn h⟩
  | update a _ f k ih => intro Q E p s hn h; exact ⟨h.1, ih () Q E p _ (by rw [Heap.size_after_update]; exact hn) h.2⟩
  | alloc o k ih => intro Q E p s hn h; exact ih _ Q E p _ (by rw [Heap.size_push]; omega) h
  | choose src m k ih => intro Q E p s hn h; exact ⟨h.1, ih _ Q E p _ hn h.2⟩
  | call c hd _ _ k ih => intro Q E p s hn h; obtain ⟨r, s', hr, h⟩ := h; exact ⟨r, s', hr, ih r Q E p s' (Nat.le_trans hn (runs_size hr)) h⟩
  | genState g k ih => intro Q E p s hn h; obtain ⟨st, hs, h⟩ := h; exact ⟨st, hs, ih _ Q E p s hn h⟩
  | resume g r _ k ih => intro Q E p s hn h; obtain ⟨res, s', hw, h⟩ := h; exact ⟨res, s', hw, ih res Q E p s' (Nat.le_trans hn (wakes_size hw)) h⟩
  | rule _ k ih => intro Q E p s hn h; exact ih () Q E p s hn h
  | «at» p' k ih => intro Q E p s hn h; exact ih () Q E p' s hn h
  | loadIfAlive a k ih => intro Q E p s hn h; exact ih _ Q E p s hn h
  | point _ k ih => intro Q E p s hn h; exact ih () Q E p s hn h
  | fresh k ih => intro Q E p s hn h; exact ih _ Q E p _ hn h
  | ask k ih => intro Q E p s hn h; exact ih _ Q E p s hn h
  | os q _ k ih => intro Q E p s hn h; exact ih _ Q E p _ hn h
  | handled own k ih => intro Q E p s hn h; exact ih _ Q E p s hn h
  | newGen c k ih => intro Q E p s hn h; exact ih _ Q E p _ hn h
  | stack k ih => intro Q E p s hn h; exact ih _ Q E p s hn h
  | thread k ih => intro Q E p s hn h; exact ih _ Q E p s hn h
theorem wpAny_size {α : Type} {M : Model} {A : Around} {s : Shared} {t : Sem α} {Q : α → Shared → Prop} {E : Value → Shared → Prop} (h : wpAny M A t Q E s) :
    wpAny M A t (fun a s' => s.heap.objs.size ≤ s'.heap.objs.size ∧ Q a s') E s :=
  fun Γ p hΓ => wp_size M Γ _ t _ _ p s (Nat.le_refl _) (h Γ p hΓ)
section
variable {α β : Type} {prog : Program} {w : World} {g0 : Cx} {A : Around} {E : Value → Shared → Prop} {h₀ : Heap} {L : Addr} {m : Loc} {N : Led} {env : Env}
theorem WB.wildK {t : Sem α} {Q : α → Loc → Led → Prop} {R : α → Prop}
    (lem : ∀ s (Q' : α → Shared → Prop) E', (∀ a o, At h₀ N a o → s.heap.get? a = some o) → (∀ a h' tk, R a → (∀ b o, s.heap.get? b = some o → h'.get? b = some o) → Q' a { s with heap := h', toks := tk }) → wpAny (model g0.prog g0.w) A t Q' E' s)
    (h : ∀ a, R a → Q a m N) : WB g0 A E h₀ L m N t Q :=
  ⟨fun s I => wpAny_mono (wpAny_toks_of (n := s.toks) (Nat.le_refl _) (wpAny_size (lem s (fun a s' => ∃ h' tk, s' = { s with heap := h', toks := tk } ∧ R a ∧ ∀ b o, s.heap.get? b = some o → h'.get? b = some o) E (fun _ _ x => I.at x) fun a h' tk r k => ⟨h', tk, rfl, r, k⟩)))
    (fun a s' ⟨ht, sz, h', tk, e, r, k⟩ => by subst e; exact ⟨m, N, I.keeps k tk ht, ⟨fun b o e _ _ _ => k b o e, fun p hp => .inl (List.mem_map_of_mem hp), sz⟩, h a r⟩) fun _ _ e => e.2⟩
theorem wb_unpack {vs : List Value} {t : Addr} {n k : Nat} {Q : List Value → Loc → Led → Prop} (hh : A.handled = none) (ht : At h₀ N t { cls := .type "tuple", data := .seq vs.toArray k }) (hn : n = vs.length) (h : Q vs m N) :
    WB g0 A E h₀ L m N (unpackItems (.ref t) n none) Q := by
  subst hn
  refine WB.wildK (R := fun x => x = vs) (fun s Q' E' at_ q => ?_) (fun a e => e ▸ h)
  have := unpackItems_tuple (prog := g0.prog) (w := g0.w) (A := A) (E := E') (s := s) (t := t) (items := vs.toArray) (Q := Q') hh ⟨_, at_ _ _ ht, rfl, _, rfl⟩ fun h' he => q _ h' s.toks (by simp) (fun b o e => he b o (Nat.ne_of_lt (Heap.lt_size e)) e)
  simpa using this
variable {cn : Str} {cs : Scope} {a0 : Addr} {ccd : Value} {cl : List (Str × Addr)}
theorem ex_assign2 {x y : Str} {px py tp pos : Pos} {kk : Nat} {value : Expr} {rest : List Stmt} {Q : Flow → Loc → Led → Prop} (hh : A.handled = none)
    (hk : cs.kind = .function) (hx : cs.names.lookup x = some .local) (hy : cs.names.lookup y = some .local)
    (h : WB g0 A E h₀ L m N (eval value (envX cn cs L a0 ccd cl)) fun v m' N' => (TupP h₀ v N' fun va vb => WB g0 A E h₀ L (upd (upd m' x va) y vb) N' (execs rest (envX cn cs L a0 ccd cl)) Q))
    (hs : swapsWithSole [.Tuple [.Name x px, .Name y py] kk tp] value pos.line (envX cn cs L a0 ccd cl) = pure false := by rfl)
    (hw : swappedStores [.Tuple [.Name x px, .Name y py] kk tp] value (envX cn cs L a0 ccd cl) = pure none := by rfl) (fx : (x == floorKey) = false := by decide) (fy : (y == floorKey) = false := by decide) :
    WB g0 A E h₀ L m N (execs (.Assign [.Tuple [.Name x px, .Name y py] kk tp] value pos :: rest) (envX cn cs L a0 ccd cl)) Q := by
  refine ex_cons ?_
  rw [PyProof.Rows.exec_Assign]
  refine WB.at_ ?_
  rw [hs]
  refine WB.bpure ?_
  rw [if_neg (by decide)]
  refine WB.bind (h.mono fun v m' N' q => ?_)
  refine via fun ξ κ=>?_
  obtain ⟨t, va, vb, k, e_1, hat, q⟩ := q
  refine κ ?_;clear κ ξ
  subst e_1
  rw [hw]
  refine WB.bpure ?_
  show WB _ _ _ _ _ _ _ (do assignAll (.ref t) [assign (.Tuple [.Name x px, .Name y py] kk tp) (envX cn cs L a0 ccd cl)]; pure Flow.next) _
  refine WB.bind ?_
  show WB _ _ _ _ _ _ _ (do standAt tp; unpack (.ref t) [(false, assign (.Name x px) _), (false, assign (.Name y py) _)]) _
  refine WB.at_ ?_
  unfold unpack
  refine WB.bind (WB.holding ?_)
  refine wb_unpack (vs := [va, vb]) hh hat rfl ?_
  show WB _ _ _ _ _ _ _ (do holding [vb] (assign (.Name x px) (envX cn cs L a0 ccd cl) va); (do holding [] (assign (.Name y py) (envX cn cs L a0 ccd cl) vb); assignInOrder [] [])) _
  refine WB.bind (WB.holding ?_)
  refine WB.at_ (WB.bindName (WB.local hk hx ?_ fx))
  refine WB.bind (WB.holding ?_)
  refine WB.at_ (WB.bindName (WB.local hk hy ?_ fy))
  exact WB.pure (WB.pure q)
theorem ex_assign2S {x y : Str} {px py tp pos : Pos} {kk : Nat} {value : Expr} {rest : List Stmt} {Q : Flow → Loc → Led → Prop} (hh : A.handled = none)
    (hk : cs.kind = .function) (hx : cs.names.lookup x = some .local) (hy : cs.names.lookup y = some .local)
    (h : WB g0 A E h₀ L m N (eval value (envX cn cs L a0 ccd cl)) fun v m' N' => (TupP h₀ v N' fun va vb => WB g0 A E h₀ L (upd (upd m' y vb) x va) N' (execs rest (envX cn cs L a0 ccd cl)) Q))
    (hs : swapsWithSole [.Tuple [.Name x px, .Name y py] kk tp] value pos.line (envX cn cs L a0 ccd cl) = pure false := by rfl)
    (hw : swappedStores [.Tuple [.Name x px, .Name y py] kk tp] value (envX cn cs L a0 ccd cl) = pure (some [x, y]) := by rfl) (fx : (x == floorKey) = false := by decide) (fy : (y == floorKey) = false := by decide) :
    WB g0 A E h₀ L m N (execs (.Assign [.Tuple [.Name x px, .Name y py] kk tp] value pos :: rest) (envX cn cs L a0 ccd cl)) Q := by
  refine ex_cons ?_
  rw [PyProof.Rows.exec_Assign]
  refine WB.at_ ?_
  rw [hs]
  refine WB.bpure ?_
  rw [if_neg (by decide)]
  refine WB.bind (h.mono fun v m' N' q => ?_)
  refine via fun ξ κ=>?_
  obtain ⟨t, va, vb, k, e_2, hat, q⟩ := q
  refine κ ?_;clear κ ξ
  subst e_2
  rw [hw]
  refine WB.bpure ?_
  show WB _ _ _ _ _ _ _ (do rule "assign.swapped-stores"; let items ← unpackItems (.ref t) 2 none; assignInOrder [bindName (envX cn cs L a0 ccd cl) y, bindName (envX cn cs L a0 ccd cl) x] items.reverse; pure Flow.next) _
  refine WB.bind (WB.rule (WB.bind ?_))
  refine wb_unpack (vs := [va, vb]) hh hat rfl ?_
  refine WB.bind ?_
  show WB _ _ _ _ _ _ _ (do holding [va] (bindName (envX cn cs L a0 ccd cl) y vb); (do holding [] (bindName (envX cn cs L a0 ccd cl) x va); assignInOrder [] [])) _
  refine WB.bind (WB.holding (WB.bindName (WB.local hk hy ?_ fy)))
  refine WB.bind (WB.holding (WB.bindName (WB.local hk hx ?_ fx)))
  exact WB.pure (WB.pure q)
theorem e_tuple {es : List Expr} {k : Nat} {pos : Pos} {Q : Value → Loc → Led → Prop} (hp : es.all plainArg = true)
    (h : argsWB g0 A E h₀ L env es (fun vs m' N' => vs.length ≤ 1000 ∧ ∀ a, Fresh h₀ L N' a → Q (.ref a) m' ((a, tupObj vs) :: N')) m N) :
    WB g0 A E h₀ L m N (eval (.Tuple es k pos) env) Q := by
  rw [arm_eval_Tuple]
  refine WB.at_ (WB.bind ((sp_args hp h).mono fun vs m' N' q => ?_))
  exact WB.alloc (o := tupObj vs) rfl (fun s Q' E' _ r => wpAny_newObj_type (r s.toks) (by show vs.toArray.size ≤ sizeLine; rw [List.size_toArray]; exact Nat.le_trans q.1 (by rw [sizeLine_eq]; omega))) q.2
theorem e_list {es : List Expr} {pos : Pos} {Q : Value → Loc → Led → Prop} (hp : es.all plainArg = true)
    (h : argsWB g0 A E h₀ L env es (fun vs m' N' => vs.length ≤ 1000 ∧ ∀ a, Fresh h₀ L N' a → Q (.ref a) m' ((a, lstObj vs) :: N')) m N) :
    WB g0 A E h₀ L m N (eval (.List es pos) env) Q := by
  rw [arm_eval_List]
  refine WB.at_ (WB.bind ((sp_args hp h).mono fun vs m' N' q => ?_))
  exact WB.alloc (o := lstObj vs) rfl (fun s Q' E' _ r => wpAny_newObj_type (r s.toks) (by show vs.toArray.size ≤ sizeLine; rw [List.size_toArray]; exact Nat.le_trans q.1 (by rw [sizeLine_eq]; omega))) q.2
theorem ex_ifJ {test : Expr} {body orelse rest : List Stmt} {pos : Pos} {Q : Flow → Loc → Led → Prop} (J : Loc → Led → Prop)
    (h : WB g0 A E h₀ L m N (isTrue test env (eval test env)) fun b m' N' => WB g0 A E h₀ L m' N' (execs (if b then body else orelse) env) (NextP J))
    (tail : ∀ m'' N'', J m'' N'' → WB g0 A E h₀ L m'' N'' (execs rest env) Q) :
    WB g0 A E h₀ L m N (execs (.If test body orelse pos :: rest) env) Q := by
  refine ex_if (h.mono fun b m' N' q => ex_append (q.mono fun f m'' N'' j => ?_))
  refine via fun ξ κ=>?_
  obtain ⟨e_3, j⟩ := j
  refine κ ?_;clear κ ξ
  subst e_3
  exact tail _ _ j
theorem ex_ifK {test : Expr} {body orelse rest : List Stmt} {pos : Pos} {Q : Flow → Loc → Led → Prop} (J : Loc → Led → Prop)
    (h : ∀ Q' : Flow → Loc → Led → Prop, (∀ m' N', J m' N' → Q' .next m' N') → WB g0 A E h₀ L m N (isTrue test env (eval test env)) fun b m' N' => WB g0 A E h₀ L m' N' (execs (if b then body else orelse) env) Q')
    (tail : ∀ m'' N'', J m'' N'' → WB g0 A E h₀ L m'' N'' (execs rest env) Q) :
    WB g0 A E h₀ L m N (execs (.If test body orelse pos :: rest) env) Q := ex_ifJ J (h _ fun _ _ j => ⟨rfl, j⟩) tail
theorem ex_while {test : Expr} {body rest : List Stmt} {pos : Pos} {Q : Flow → Loc → Led → Prop} (J : Nat → Loc → Led → Prop) (n : Nat)
    (h0 : J n m N)
    (turn : ∀ n m N, J n m N → WB g0 A (fun _ _ => False) h₀ L m N (isTrue test env (eval test env)) fun b m' N' =>
      if b then WB g0 A (fun _ _ => False) h₀ L m' N' (execs body env) fun f m'' N'' => match f with
        | .next | .cont => ∃ k, k < n ∧ J k m'' N''
        | _ => False
      else WB g0 A (fun _ _ => False) h₀ L m' N' (execs rest env) Q) :
    WB g0 A (fun _ _ => False) h₀ L m N (execs (.While test body [] pos :: rest) env) Q := by
  refine ex_cons ⟨fun s I => ?_⟩
  have main : codeAny (model g0.prog g0.w) A (.whileLoop test body [] env) (fun r s' => match r with
      | .ok f => ∃ m' N', Inv g0 h₀ L m' N' s' ∧ Step L N N' s.heap s'.heap ∧ (match f with | .next => WB g0 A (fun _ _ => False) h₀ L m' N' (execs rest env) Q | f => Q f m' N')
      | .error e => False) s := by
    refine codeAny_whileLoop (fun k s' => ∃ m' N', Inv g0 h₀ L m' N' s' ∧ Step L N N' s.heap s'.heap ∧ J k m' N') (fun k s' hI => ?_) n ⟨m, N, I, .refl .., h0⟩
    refine exE2 hI fun m' N' h_0 => anE3 h_0 fun I' S' j => ?_
    clear h_0 hI
    refine WB.runC I' (WB.mono (turn k m' N' j) fun b m₂ N₂ q s₂ I₂ S₂ => ?_)
    cases b with
    | true =>
      simp only [if_true] at q ⊢
      refine WB.runC I₂ (q.mono fun f m₃ N₃ q₃ s₃ I₃ S₃ => ?_)
      cases f with
      | next => obtain ⟨k', lt, j'⟩ := q₃; exact ⟨k', lt, m₃, N₃, I₃, S'.trans (S₂.trans S₃), j'⟩
      | cont => obtain ⟨k', lt, j'⟩ := q₃; exact ⟨k', lt, m₃, N₃, I₃, S'.trans (S₂.trans S₃), j'⟩
      | brk => exact q₃.elim
      | ret v => exact q₃.elim
    | false =>
      simp only [Bool.false_eq_true, if_false] at q ⊢
      refine wpAny_execs_nil ?_
      exact ⟨m₂, N₂, I₂, S'.trans S₂, q⟩
  exact wpAny_While (codeAny_mono main fun r s' q => by cases r <;> first | exact q | exact q.elim)
end
theorem wpAny_ts {α : Type} {M : Model} {A : Around} {t : Sem α} {Q : α → Shared → Prop} {E : Value → Shared → Prop} {s : Shared} (h : wpAny M A t (fun a s' => s.toks ≤ s'.toks → s.heap.objs.size ≤ s'.heap.objs.size → Q a s') (fun _ _ => False) s) : wpAny M A t Q E s :=
  wpAny_mono (wpAny_toks_of (n := s.toks) (Nat.le_refl _) (wpAny_size h)) (fun _ _ ⟨ht, sz, k⟩ => k ht sz) fun _ _ e => e.2.elim
end Mine

end

section
open PySem PySem.W PyProof.Rows
namespace Mine
theorem ks__div2n1n : (scopeOf 3).kind = .function := by rfl
theorem k__div2n1n_a : (scopeOf 3).names.lookup (Str.ofString "a") = some .local := by rfl
theorem k__div2n1n_b : (scopeOf 3).names.lookup (Str.ofString "b") = some .local := by rfl
theorem k__div2n1n_n : (scopeOf 3).names.lookup (Str.ofString "n") = some .local := by rfl
theorem k__div2n1n_pad : (scopeOf 3).names.lookup (Str.ofString "pad") = some .local := by rfl
theorem k__div2n1n_half_n : (scopeOf 3).names.lookup (Str.ofString "half_n") = some .local := by rfl
theorem k__div2n1n_mask : (scopeOf 3).names.lookup (Str.ofString "mask") = some .local := by rfl
theorem k__div2n1n_b1 : (scopeOf 3).names.lookup (Str.ofString "b1") = some .local := by rfl
theorem k__div2n1n_b2 : (scopeOf 3).names.lookup (Str.ofString "b2") = some .local := by rfl
theorem k__div2n1n_q1 : (scopeOf 3).names.lookup (Str.ofString "q1") = some .local := by rfl
theorem k__div2n1n_r : (scopeOf 3).names.lookup (Str.ofString "r") = some .local := by rfl
theorem k__div2n1n_q2 : (scopeOf 3).names.lookup (Str.ofString "q2") = some .local := by rfl
theorem k__div2n1n__DIV_LIMIT : (scopeOf 3).names.lookup (Str.ofString "_DIV_LIMIT") = some .globalImplicit := by rfl
theorem k__div2n1n_divmod : (scopeOf 3).names.lookup (Str.ofString "divmod") = some .globalImplicit := by rfl
theorem k__div2n1n__div3n2n : (scopeOf 3).names.lookup (Str.ofString "_div3n2n") = some .globalImplicit := by rfl
theorem ks__div3n2n : (scopeOf 4).kind = .function := by rfl
theorem k__div3n2n_a12 : (scopeOf 4).names.lookup (Str.ofString "a12") = some .local := by rfl
theorem k__div3n2n_a3 : (scopeOf 4).names.lookup (Str.ofString "a3") = some .local := by rfl
theorem k__div3n2n_b : (scopeOf 4).names.lookup (Str.ofString "b") = some .local := by rfl
theorem k__div3n2n_b1 : (scopeOf 4).names.lookup (Str.ofString "b1") = some .local := by rfl
theorem k__div3n2n_b2 : (scopeOf 4).names.lookup (Str.ofString "b2") = some .local := by rfl
theorem k__div3n2n_n : (scopeOf 4).names.lookup (Str.ofString "n") = some .local := by rfl
theorem k__div3n2n_q : (scopeOf 4).names.lookup (Str.ofString "q") = some .local := by rfl
theorem k__div3n2n_r : (scopeOf 4).names.lookup (Str.ofString "r") = some .local := by rfl
theorem k__div3n2n__div2n1n : (scopeOf 4).names.lookup (Str.ofString "_div2n1n") = some .globalImplicit := by rfl
theorem ks__int2digits : (scopeOf 5).kind = .function := by rfl
theorem k__int2digits_a : (scopeOf 5).names.lookup (Str.ofString "a") = some .local := by rfl
theorem k__int2digits_n : (scopeOf 5).names.lookup (Str.ofString "n") = some .cell := by rfl
theorem k__int2digits_a_digits : (scopeOf 5).names.lookup (Str.ofString "a_digits") = some .cell := by rfl
theorem k__int2digits_inner : (scopeOf 5).names.lookup (Str.ofString "inner") = some .cell := by rfl
theorem k__int2digits_len : (scopeOf 5).names.lookup (Str.ofString "len") = some .globalImplicit := by rfl
theorem ks__digits2int : (scopeOf 6).kind = .function := by rfl
theorem k__digits2int_digits : (scopeOf 6).names.lookup (Str.ofString "digits") = some .cell := by rfl
theorem k__digits2int_n : (scopeOf 6).names.lookup (Str.ofString "n") = some .cell := by rfl
theorem k__digits2int_inner : (scopeOf 6).names.lookup (Str.ofString "inner") = some .cell := by rfl
theorem k__digits2int_len : (scopeOf 6).names.lookup (Str.ofString "len") = some .globalImplicit := by rfl
theorem ks__divmod_pos : (scopeOf 7).kind = .function := by rfl
theorem k__divmod_pos_a : (scopeOf 7).names.lookup (Str.ofString "a") = some .local := by rfl
theorem k__divmod_pos_b : (scopeOf 7).names.lookup (Str.ofString "b") = some .local := by rfl
theorem k__divmod_pos_n : (scopeOf 7).names.lookup (Str.ofString "n") = some .local := by rfl
theorem k__divmod_pos_a_digits : (scopeOf 7).names.lookup (Str.ofString "a_digits") = some .local := by rfl
theorem k__divmod_pos_r : (scopeOf 7).names.lookup (Str.ofString "r") = some .local := by rfl
theorem k__divmod_pos_q_digits : (scopeOf 7).names.lookup (Str.ofString "q_digits") = some .local := by rfl
theorem k__divmod_pos_a_digit : (scopeOf 7).names.lookup (Str.ofString "a_digit") = some .local := by rfl
theorem k__divmod_pos_q_digit : (scopeOf 7).names.lookup (Str.ofString "q_digit") = some .local := by rfl
theorem k__divmod_pos_q : (scopeOf 7).names.lookup (Str.ofString "q") = some .local := by rfl
theorem k__divmod_pos__int2digits : (scopeOf 7).names.lookup (Str.ofString "_int2digits") = some .globalImplicit := by rfl
theorem k__divmod_pos_reversed : (scopeOf 7).names.lookup (Str.ofString "reversed") = some .globalImplicit := by rfl
theorem k__divmod_pos__div2n1n : (scopeOf 7).names.lookup (Str.ofString "_div2n1n") = some .globalImplicit := by rfl
theorem k__divmod_pos__digits2int : (scopeOf 7).names.lookup (Str.ofString "_digits2int") = some .globalImplicit := by rfl
theorem ks_int_divmod : (scopeOf 8).kind = .function := by rfl
theorem k_int_divmod_a : (scopeOf 8).names.lookup (Str.ofString "a") = some .local := by rfl
theorem k_int_divmod_b : (scopeOf 8).names.lookup (Str.ofString "b") = some .local := by rfl
theorem k_int_divmod_q : (scopeOf 8).names.lookup (Str.ofString "q") = some .local := by rfl
theorem k_int_divmod_r : (scopeOf 8).names.lookup (Str.ofString "r") = some .local := by rfl
theorem k_int_divmod_ZeroDivisionError : (scopeOf 8).names.lookup (Str.ofString "ZeroDivisionError") = some .globalImplicit := by rfl
theorem k_int_divmod_int_divmod : (scopeOf 8).names.lookup (Str.ofString "int_divmod") = some .globalImplicit := by rfl
theorem k_int_divmod__divmod_pos : (scopeOf 8).names.lookup (Str.ofString "_divmod_pos") = some .globalImplicit := by rfl
theorem k_add_a : (scopeOf 10).names.lookup (Str.ofString "a") = some .local := by rfl
theorem k_add_b : (scopeOf 10).names.lookup (Str.ofString "b") = some .local := by rfl
theorem k_mul_a : (scopeOf 11).names.lookup (Str.ofString "a") = some .local := by rfl
theorem k_mul_b : (scopeOf 11).names.lookup (Str.ofString "b") = some .local := by rfl
theorem k_neg_a : (scopeOf 12).names.lookup (Str.ofString "a") = some .local := by rfl
theorem k_sub_a : (scopeOf 13).names.lookup (Str.ofString "a") = some .local := by rfl
theorem k_sub_b : (scopeOf 13).names.lookup (Str.ofString "b") = some .local := by rfl
theorem ks_concat : (scopeOf 14).kind = .function := by rfl
theorem k_concat_a : (scopeOf 14).names.lookup (Str.ofString "a") = some .local := by rfl
theorem k_concat_b : (scopeOf 14).names.lookup (Str.ofString "b") = some .local := by rfl
theorem k_concat_hasattr : (scopeOf 14).names.lookup (Str.ofString "hasattr") = some .globalImplicit := by rfl
theorem ks_countOf : (scopeOf 15).kind = .function := by rfl
theorem k_countOf_a : (scopeOf 15).names.lookup (Str.ofString "a") = some .local := by rfl
theorem k_countOf_b : (scopeOf 15).names.lookup (Str.ofString "b") = some .local := by rfl
theorem k_countOf_count : (scopeOf 15).names.lookup (Str.ofString "count") = some .local := by rfl
theorem k_countOf_i : (scopeOf 15).names.lookup (Str.ofString "i") = some .local := by rfl
theorem ks_ipow : (scopeOf 16).kind = .function := by rfl
theorem k_ipow_a : (scopeOf 16).names.lookup (Str.ofString "a") = some .local := by rfl
theorem k_ipow_b : (scopeOf 16).names.lookup (Str.ofString "b") = some .local := by rfl
theorem ks_quotedata : (scopeOf 22).kind = .function := by rfl
theorem k_quotedata_data : (scopeOf 22).names.lookup (Str.ofString "data") = some .local := by rfl
theorem k_quotedata__twin_re_1 : (scopeOf 22).names.lookup (Str.ofString "_twin_re_1") = some .globalImplicit := by rfl
theorem k_quotedata__twin_re_3 : (scopeOf 22).names.lookup (Str.ofString "_twin_re_3") = some .globalImplicit := by rfl
theorem k_quotedata_CRLF : (scopeOf 22).names.lookup (Str.ofString "CRLF") = some .globalImplicit := by rfl
theorem ks__quote_periods : (scopeOf 23).kind = .function := by rfl
theorem k__quote_periods_bindata : (scopeOf 23).names.lookup (Str.ofString "bindata") = some .local := by rfl
theorem k__quote_periods__twin_re_2 : (scopeOf 23).names.lookup (Str.ofString "_twin_re_2") = some .globalImplicit := by rfl
theorem ks__fix_eols : (scopeOf 24).kind = .function := by rfl
theorem k__fix_eols_data : (scopeOf 24).names.lookup (Str.ofString "data") = some .local := by rfl
theorem k__fix_eols__twin_re_3 : (scopeOf 24).names.lookup (Str.ofString "_twin_re_3") = some .globalImplicit := by rfl
theorem k__fix_eols_CRLF : (scopeOf 24).names.lookup (Str.ofString "CRLF") = some .globalImplicit := by rfl
theorem ks__law_dots : (scopeOf 26).kind = .function := by rfl
theorem k__law_dots_script : (scopeOf 26).names.lookup (Str.ofString "script") = some .local := by rfl
theorem k__law_dots_size : (scopeOf 26).names.lookup (Str.ofString "size") = some .local := by rfl
theorem k__law_dots_dots : (scopeOf 26).names.lookup (Str.ofString "dots") = some .local := by rfl
theorem k__law_dots_k : (scopeOf 26).names.lookup (Str.ofString "k") = some .local := by rfl
theorem k__law_dots_range : (scopeOf 26).names.lookup (Str.ofString "range") = some .globalImplicit := by rfl
theorem k__law_dots_sum : (scopeOf 26).names.lookup (Str.ofString "sum") = some .globalImplicit := by rfl
theorem ks__law_pairs : (scopeOf 27).kind = .function := by rfl
theorem k__law_pairs_dots : (scopeOf 27).names.lookup (Str.ofString "dots") = some .local := by rfl
theorem k__law_pairs_mark : (scopeOf 27).names.lookup (Str.ofString "mark") = some .cell := by rfl
theorem k__law_pairs_turn : (scopeOf 27).names.lookup (Str.ofString "turn") = some .local := by rfl
theorem k__law_pairs_ends : (scopeOf 27).names.lookup (Str.ofString "ends") = some .local := by rfl
theorem k__law_pairs_rows : (scopeOf 27).names.lookup (Str.ofString "rows") = some .local := by rfl
theorem k__law_pairs_pairs : (scopeOf 27).names.lookup (Str.ofString "pairs") = some .local := by rfl
theorem k__law_pairs_sending : (scopeOf 27).names.lookup (Str.ofString "sending") = some .local := by rfl
theorem k__law_pairs_lines : (scopeOf 27).names.lookup (Str.ofString "lines") = some .local := by rfl
theorem k__law_pairs_cut : (scopeOf 27).names.lookup (Str.ofString "cut") = some .local := by rfl
theorem k__law_pairs_due : (scopeOf 27).names.lookup (Str.ofString "due") = some .local := by rfl
theorem k__law_pairs_text : (scopeOf 27).names.lookup (Str.ofString "text") = some .local := by rfl
theorem k__law_pairs_raw : (scopeOf 27).names.lookup (Str.ofString "raw") = some .local := by rfl
theorem k__law_pairs_feed : (scopeOf 27).names.lookup (Str.ofString "feed") = some .local := by rfl
theorem k__law_pairs_k : (scopeOf 27).names.lookup (Str.ofString "k") = some .local := by rfl
theorem k__law_pairs_end : (scopeOf 27).names.lookup (Str.ofString "end") = some .local := by rfl
theorem k__law_pairs_told : (scopeOf 27).names.lookup (Str.ofString "told") = some .local := by rfl
theorem k__law_pairs_back : (scopeOf 27).names.lookup (Str.ofString "back") = some .local := by rfl
theorem k__law_pairs_range : (scopeOf 27).names.lookup (Str.ofString "range") = some .globalImplicit := by rfl
theorem k__law_pairs_max : (scopeOf 27).names.lookup (Str.ofString "max") = some .globalImplicit := by rfl
theorem k__law_pairs_len : (scopeOf 27).names.lookup (Str.ofString "len") = some .globalImplicit := by rfl
theorem k__law_pairs_concat : (scopeOf 27).names.lookup (Str.ofString "concat") = some .globalImplicit := by rfl
theorem k__law_pairs_quotedata : (scopeOf 27).names.lookup (Str.ofString "quotedata") = some .globalImplicit := by rfl
theorem k__law_pairs__quote_periods : (scopeOf 27).names.lookup (Str.ofString "_quote_periods") = some .globalImplicit := by rfl
theorem k__law_pairs__fix_eols : (scopeOf 27).names.lookup (Str.ofString "_fix_eols") = some .globalImplicit := by rfl
theorem k__law_pairs_sorted : (scopeOf 27).names.lookup (Str.ofString "sorted") = some .globalImplicit := by rfl
theorem ks__law_powers : (scopeOf 28).kind = .function := by rfl
theorem k__law_powers_sums : (scopeOf 28).names.lookup (Str.ofString "sums") = some .local := by rfl
theorem k__law_powers_size : (scopeOf 28).names.lookup (Str.ofString "size") = some .local := by rfl
theorem k__law_powers_far : (scopeOf 28).names.lookup (Str.ofString "far") = some .local := by rfl
theorem k__law_powers_near : (scopeOf 28).names.lookup (Str.ofString "near") = some .local := by rfl
theorem k__law_powers_powers : (scopeOf 28).names.lookup (Str.ofString "powers") = some .local := by rfl
theorem k__law_powers_k : (scopeOf 28).names.lookup (Str.ofString "k") = some .local := by rfl
theorem k__law_powers_right : (scopeOf 28).names.lookup (Str.ofString "right") = some .local := by rfl
theorem k__law_powers_one : (scopeOf 28).names.lookup (Str.ofString "one") = some .local := by rfl
theorem k__law_powers_choose : (scopeOf 28).names.lookup (Str.ofString "choose") = some .local := by rfl
theorem k__law_powers_j : (scopeOf 28).names.lookup (Str.ofString "j") = some .local := by rfl
theorem k__law_powers_parts : (scopeOf 28).names.lookup (Str.ofString "parts") = some .local := by rfl
theorem k__law_powers_side : (scopeOf 28).names.lookup (Str.ofString "side") = some .local := by rfl
theorem k__law_powers_quotient : (scopeOf 28).names.lookup (Str.ofString "quotient") = some .local := by rfl
theorem k__law_powers_rest : (scopeOf 28).names.lookup (Str.ofString "rest") = some .local := by rfl
theorem k__law_powers_range : (scopeOf 28).names.lookup (Str.ofString "range") = some .globalImplicit := by rfl
theorem k__law_powers_add : (scopeOf 28).names.lookup (Str.ofString "add") = some .globalImplicit := by rfl
theorem k__law_powers_mul : (scopeOf 28).names.lookup (Str.ofString "mul") = some .globalImplicit := by rfl
theorem k__law_powers_ipow : (scopeOf 28).names.lookup (Str.ofString "ipow") = some .globalImplicit := by rfl
theorem k__law_powers_sub : (scopeOf 28).names.lookup (Str.ofString "sub") = some .globalImplicit := by rfl
theorem k__law_powers_int_divmod : (scopeOf 28).names.lookup (Str.ofString "int_divmod") = some .globalImplicit := by rfl
theorem ks__law_products : (scopeOf 29).kind = .function := by rfl
theorem k__law_products_powers : (scopeOf 29).names.lookup (Str.ofString "powers") = some .local := by rfl
theorem k__law_products_far : (scopeOf 29).names.lookup (Str.ofString "far") = some .local := by rfl
theorem k__law_products_near : (scopeOf 29).names.lookup (Str.ofString "near") = some .local := by rfl
theorem k__law_products_products : (scopeOf 29).names.lookup (Str.ofString "products") = some .local := by rfl
theorem k__law_products_k : (scopeOf 29).names.lookup (Str.ofString "k") = some .local := by rfl
theorem k__law_products_right : (scopeOf 29).names.lookup (Str.ofString "right") = some .local := by rfl
theorem k__law_products_j : (scopeOf 29).names.lookup (Str.ofString "j") = some .local := by rfl
theorem k__law_products_term : (scopeOf 29).names.lookup (Str.ofString "term") = some .local := by rfl
theorem k__law_products_quotient : (scopeOf 29).names.lookup (Str.ofString "quotient") = some .local := by rfl
theorem k__law_products_rest : (scopeOf 29).names.lookup (Str.ofString "rest") = some .local := by rfl
theorem k__law_products_range : (scopeOf 29).names.lookup (Str.ofString "range") = some .globalImplicit := by rfl
theorem k__law_products_len : (scopeOf 29).names.lookup (Str.ofString "len") = some .globalImplicit := by rfl
theorem k__law_products_mul : (scopeOf 29).names.lookup (Str.ofString "mul") = some .globalImplicit := by rfl
theorem k__law_products_add : (scopeOf 29).names.lookup (Str.ofString "add") = some .globalImplicit := by rfl
theorem k__law_products_sub : (scopeOf 29).names.lookup (Str.ofString "sub") = some .globalImplicit := by rfl
theorem k__law_products_int_divmod : (scopeOf 29).names.lookup (Str.ofString "int_divmod") = some .globalImplicit := by rfl
theorem ks__law_hard : (scopeOf 30).kind = .function := by rfl
theorem k__law_hard_half : (scopeOf 30).names.lookup (Str.ofString "half") = some .local := by rfl
theorem k__law_hard_hard : (scopeOf 30).names.lookup (Str.ofString "hard") = some .local := by rfl
theorem k__law_hard_times : (scopeOf 30).names.lookup (Str.ofString "times") = some .local := by rfl
theorem k__law_hard_int_divmod : (scopeOf 30).names.lookup (Str.ofString "int_divmod") = some .globalImplicit := by rfl
theorem k__law_hard_neg : (scopeOf 30).names.lookup (Str.ofString "neg") = some .globalImplicit := by rfl
end Mine

end

section
open PySem PySem.W PyProof.Rows
namespace Mine
open Builtin.Int (intBits)
theorem p2pos (k : Nat) : (0 : Int) < 2 ^ k := kbt_pos k
theorem p2succ (k : Nat) : (2 : Int) ^ (k + 1) = 2 * 2 ^ k := by rw [Int.pow_succ, Int.mul_comm]
theorem p2add (j k : Nat) : (2 : Int) ^ (j + k) = 2 ^ j * 2 ^ k := Int.pow_add 2 j k
theorem or_shift {x y : Int} {k : Nat} (hx : 0 ≤ x) (hy : 0 ≤ y) (hl : y < 2 ^ k) : Builtin.bitOr (x * 2 ^ k) y = x * 2 ^ k + y := by
  obtain ⟨a, rfl⟩ := Int.eq_ofNat_of_zero_le hx
  obtain ⟨b, rfl⟩ := Int.eq_ofNat_of_zero_le hy
  have hb : b < 2 ^ k := by
    have : ((b : Nat) : Int) < ((2 ^ k : Nat) : Int) := by rw [kbt_cast]; exact hl
    omega
  have e : ((a : Nat) : Int) * 2 ^ k = ((2 ^ k * a : Nat) : Int) := by rw [Int.natCast_mul, kbt_cast, Int.mul_comm]
  rw [e, bitOr_and, bitAnd_pp (Int.natCast_nonneg _) (Int.natCast_nonneg _)]
  have h := Nat.two_pow_add_eq_or_of_lt hb a
  have h2 := nat_or_add_and (2 ^ k * a) b
  simp only [Int.toNat_natCast]
  omega
theorem and_or_absorb (A l : Nat) : (A ||| l) &&& A = A := by
  apply Nat.eq_of_testBit_eq
  intro i
  simp only [Nat.testBit_and, Nat.testBit_or]
  cases A.testBit i <;> simp
theorem xor_shift {u l : Int} {k : Nat} (hu : 0 ≤ u) (hy : 0 ≤ l) (hl : l < 2 ^ k) : Builtin.bitXor (u * 2 ^ k + l) (u * 2 ^ k) = l := by
  obtain ⟨a, rfl⟩ := Int.eq_ofNat_of_zero_le hu
  obtain ⟨b, rfl⟩ := Int.eq_ofNat_of_zero_le hy
  have hb : b < 2 ^ k := by
    have : ((b : Nat) : Int) < ((2 ^ k : Nat) : Int) := by rw [kbt_cast]; exact hl
    omega
  have e : ((a : Nat) : Int) * 2 ^ k = ((2 ^ k * a : Nat) : Int) := by rw [Int.natCast_mul, kbt_cast, Int.mul_comm]
  have h := Nat.two_pow_add_eq_or_of_lt hb a
  rw [bitXor_and, e, bitAnd_pp (by omega) (Int.natCast_nonneg _)]
  have e2 : (((2 ^ k * a : Nat) : Int) + (b : Int)).toNat = 2 ^ k * a + b := by omega
  rw [e2, Int.toNat_natCast, h, and_or_absorb]
  omega
theorem shr_eq {x : Int} (k : Nat) (hx : 0 ≤ x) : x.fdiv (2 ^ k) = x / 2 ^ k := Int.fdiv_eq_ediv_of_nonneg _ (Int.le_of_lt (p2pos k))
theorem fdiv_pos {a b : Int} (hb : 0 < b) : a.fdiv b = a / b := Int.fdiv_eq_ediv_of_nonneg _ (Int.le_of_lt hb)
theorem fmod_pos {a b : Int} (hb : 0 < b) : a.fmod b = a % b := Int.fmod_eq_emod_of_nonneg _ (Int.le_of_lt hb)
theorem bits_ge {b : Int} {n : Nat} (h0 : 2 ^ n ≤ b) : n + 1 ≤ intBits b := by
  have l2 : ¬ intBits b ≤ n := fun hc => by
    have := intBits_le_iff.mp hc
    have : ((b.natAbs : Nat) : Int) < ((2 ^ n : Nat) : Int) := by exact_mod_cast this
    rw [kbt_cast] at this
    omega
  omega
theorem bits_le {b : Int} {n : Nat} (h0 : 0 ≤ b) (h1 : b < 2 ^ n) : intBits b ≤ n := intBits_le_iff.mpr (by
    have : ((b.natAbs : Nat) : Int) < ((2 ^ n : Nat) : Int) := by rw [kbt_cast]; omega
    omega)
theorem lt_of_bits {b : Int} {n : Nat} (h : intBits b ≤ n) : b < 2 ^ n := by
  have := intBits_le_iff.mp h
  have : ((b.natAbs : Nat) : Int) < ((2 ^ n : Nat) : Int) := by exact_mod_cast this
  rw [kbt_cast] at this
  omega
theorem bits_low {b : Int} (hb : 0 < b) : ∃ n, intBits b = n + 1 ∧ 2 ^ n ≤ b := by
  refine ⟨intBits b - 1, ?_, ?_⟩
  · have : ¬ intBits b ≤ 0 := fun h => by
      have := lt_of_bits h
      simp at this; omega
    omega
  · refine Int.not_lt.mp fun h => ?_
    have h1 := bits_le (Int.le_of_lt hb) h
    have : ¬ intBits b ≤ 0 := fun h => by
      have := lt_of_bits h
      simp at this; omega
    omega
theorem noPy {a b : Int} (h : intBits a ≤ intBits b + 4000) : Builtin.divisionGoesByPylong a b = false := by
  unfold Builtin.divisionGoesByPylong
  unfold intBits at h
  by_cases ha : a = 0 <;> by_cases hb : b = 0 <;> simp only [ha, hb, beq_self_eq_true, if_true, beq_iff_eq, if_false] at h ⊢ <;> simp <;> omega
theorem divmod_uniq {a b q r : Int} (hb : 0 < b) (h : a = q * b + r) (h0 : 0 ≤ r) (h1 : r < b) : a / b = q ∧ a % b = r :=
  kbt_unique hb (by rw [h, Int.mul_comm]; omega) h0 h1
theorem p27 : (2 : Int) ^ 27 = 134217728 := by decide
theorem p20 : (2 : Nat) ^ 20 = 1048576 := by decide
theorem shl_ok {a : Int} {n m : Nat} (ha : intBits a ≤ m) (h : m + n ≤ 100000000) : (intBits a : Int) + (n : Int) ≤ 2 ^ 27 := by rw [p27]; omega
theorem mul_ok {a b : Int} {n m : Nat} (ha : intBits a ≤ m) (hb : intBits b ≤ n) (h : m + n ≤ 100000000) : IntMulOk a b := IntMulOk.of_le ha hb (by omega)
theorem bits1 : intBits 1 = 1 := by decide
theorem d3_a {P b1 b2 a12 a3 b : Int} (hP : 0 < P) (hb : b = b1 * P + b2) (h20 : 0 ≤ b2) (h1 : 0 < b1) (h30 : 0 ≤ a3) (h3 : a3 < P) (hab : a12 < b) (hq : a12 / P = b1) :
    0 ≤ 1 * P - 1 ∧ 1 * P - 1 < P ∧ 0 ≤ a12 - b1 * P + b1 ∧ a12 - b1 * P + b1 < b ∧ (1 * P - 1) * b1 + (a12 - b1 * P + b1) = a12 ∧ (a12 - b1 * P + b1) * P + a3 - (1 * P - 1) * b2 < b := by
  have e := Int.emod_add_mul_ediv a12 P
  have e0 := Int.emod_nonneg a12 (Int.ne_of_gt hP)
  have e1 := Int.emod_lt_of_pos a12 hP
  rw [hq] at e
  generalize a12 % P = x at e e0 e1
  have c : P * b1 = b1 * P := Int.mul_comm _ _
  have hx : x < b2 := by omega
  have m1 : b1 * 1 ≤ b1 * P := Int.mul_le_mul_of_nonneg_left (by omega) (by omega)
  have m2 : 0 ≤ (b2 - 1 - x) * P := Int.mul_nonneg (by omega) (by omega)
  have r1 : (1 * P - 1) * b1 = b1 * P - b1 := by rw [Int.sub_mul, Int.one_mul, Int.one_mul, Int.mul_comm]
  have r2 : (1 * P - 1) * b2 = b2 * P - b2 := by rw [Int.sub_mul, Int.one_mul, Int.one_mul, Int.mul_comm]
  have r3 : (a12 - b1 * P + b1) = x + b1 := by omega
  have r4 : (x + b1) * P = x * P + b1 * P := Int.add_mul _ _ _
  have r5 : (b2 - 1 - x) * P = b2 * P - P - x * P := by rw [Int.sub_mul, Int.sub_mul, Int.one_mul]
  rw [r1, r2, r3, r4]
  refine ⟨by omega, by omega, by omega, by omega, by omega, by omega⟩
theorem d3_b {P b1 b2 a12 b : Int} (hP : 0 < P) (hb : b = b1 * P + b2) (h2 : b2 < P) (h1 : 0 < b1) (ha : 0 ≤ a12) (hab : a12 < b) (hq : a12 / P ≠ b1) : a12 < b1 * P := by
  have e := Int.emod_add_mul_ediv a12 P
  have e0 := Int.emod_nonneg a12 (Int.ne_of_gt hP)
  have e1 := Int.emod_lt_of_pos a12 hP
  generalize a12 % P = x at e e0 e1
  generalize a12 / P = y at e hq
  have hy : y < b1 + 1 := by
    refine Int.lt_of_mul_lt_mul_left (a := P) ?_ (by omega)
    rw [Int.mul_add, Int.mul_comm P b1]; omega
  have m : 0 ≤ P * (b1 - 1 - y) := Int.mul_nonneg (by omega) (by omega)
  have r : P * (b1 - 1 - y) = b1 * P - P - P * y := by rw [Int.mul_sub, Int.mul_sub, Int.mul_one, Int.mul_comm P b1]
  omega
theorem d3_c {P b1 b2 a12 a3 b : Int} (hP : 0 < P) (hb : b = b1 * P + b2) (h20 : 0 ≤ b2) (h1 : 0 < b1) (h30 : 0 ≤ a3) (h3 : a3 < P) (ha : 0 ≤ a12) (hlt : a12 < b1 * P) :
    0 ≤ a12 / b1 ∧ a12 / b1 < P ∧ 0 ≤ a12 % b1 ∧ a12 % b1 < b ∧ a12 / b1 * b1 + a12 % b1 = a12 ∧ a12 % b1 * P + a3 - a12 / b1 * b2 < b := by
  have e := Int.emod_add_mul_ediv a12 b1
  have e0 := Int.emod_nonneg a12 (Int.ne_of_gt h1)
  have e1 := Int.emod_lt_of_pos a12 h1
  have q0 : 0 ≤ a12 / b1 := Int.ediv_nonneg ha (by omega)
  have q1 : a12 / b1 < P := Int.ediv_lt_of_lt_mul h1 (by rw [Int.mul_comm]; exact hlt)
  generalize a12 % b1 = x at *
  generalize a12 / b1 = y at *
  have m0 : b1 * 1 ≤ b1 * P := Int.mul_le_mul_of_nonneg_left (by omega) (by omega)
  have m1 : 0 ≤ y * b2 := Int.mul_nonneg q0 h20
  have m2 : 0 ≤ (b1 - 1 - x) * P := Int.mul_nonneg (by omega) (by omega)
  have r5 : (b1 - 1 - x) * P = b1 * P - P - x * P := by rw [Int.sub_mul, Int.sub_mul, Int.one_mul]
  have c : b1 * y = y * b1 := Int.mul_comm _ _
  refine ⟨by omega, by omega, by omega, by omega, by omega, by omega⟩
theorem d3_d {P b1 b2 a12 a3 b q r : Int} (hb : b = b1 * P + b2) (h : q * b1 + r = a12) : q * b + (r * P + a3 - q * b2) = a12 * P + a3 := by
  rw [hb, ← h, Int.mul_add, Int.add_mul, Int.mul_assoc]; omega
theorem d2_a {P a b S Q1 R1 q2 r : Int} (hS : a = S * P + a % P) (h1 : S = Q1 * b + R1) (h2 : R1 * P + a % P = q2 * b + r) : a = (Q1 * P + q2) * b + r := by
  have e : (Q1 * P + q2) * b = Q1 * b * P + q2 * b := by rw [Int.add_mul, Int.mul_assoc, Int.mul_comm P b, ← Int.mul_assoc]
  have e2 : (Q1 * b + R1) * P = Q1 * b * P + R1 * P := Int.add_mul _ _ _
  rw [h1, e2] at hS
  omega
theorem ediv_mod (a b : Int) : a = a / b * b + a % b := by
  have := Int.emod_add_mul_ediv a b
  rw [Int.mul_comm] at this; omega
theorem quot_lt {a b P : Int} (hb : 0 < b) (h : a < b * P) : a / b < P := Int.ediv_lt_of_lt_mul hb (by rw [Int.mul_comm]; exact h)
theorem halves {a P : Int} (hP : 0 < P) (ha : 0 ≤ a) : a / (P * P) * P + a / P % P = a / P := by
  have e : a / P / P = a / (P * P) := by
    rw [Int.ediv_ediv]
    have : ¬ (P < 0 ∧ ¬ P ∣ a / P) := fun h => absurd h.1 (by omega)
    rw [if_neg this]; omega
  rw [← e]
  have := Int.emod_add_mul_ediv (a / P) P
  rw [Int.mul_comm] at this; omega
end Mine

end

section
open PySem PySem.W PyProof.Rows
namespace Mine
open Builtin.Int (intBits)
theorem entry_eq (binds : List (Str × Value)) : (fun y => binds.reverse.lookup y) = binds.foldl (fun m p => upd m p.1 p.2) (fun _ => none) := by
  have : ∀ (l : List (Str × Value)) (m : Loc), l.foldl (fun m p => upd m p.1 p.2) m = fun y => (l.reverse.lookup y).or (m y) := by
    intro l
    induction l with
    | nil => intro m; funext y; simp
    | cons p r ih =>
      intro m
      obtain ⟨k, v⟩ := p
      rw [List.foldl_cons, ih]
      funext y
      simp only [List.reverse_cons, List.lookup_append, List.lookup_cons, List.lookup_nil, upd]
      by_cases h : y = k
      · subst h; simp [Option.or_assoc]
      · have hb : (y == k) = false := beq_eq_false_iff_ne.mpr h
        simp [hb, h]
  rw [this]; funext y; simp
theorem entry1 {a0 : Str} {v0 : Value} : (fun y => [(a0, v0)].reverse.lookup y) = (upd (fun _ => none) a0 v0) := entry_eq _
theorem entry2 {a0 a1 : Str} {v0 v1 : Value} : (fun y => [(a0, v0), (a1, v1)].reverse.lookup y) = (upd (upd (fun _ => none) a0 v0) a1 v1) := entry_eq _
theorem entry3 {a0 a1 a2 : Str} {v0 v1 v2 : Value} : (fun y => [(a0, v0), (a1, v1), (a2, v2)].reverse.lookup y) = (upd (upd (upd (fun _ => none) a0 v0) a1 v1) a2 v2) := entry_eq _
theorem entry4 {a0 a1 a2 a3 : Str} {v0 v1 v2 v3 : Value} : (fun y => [(a0, v0), (a1, v1), (a2, v2), (a3, v3)].reverse.lookup y) = (upd (upd (upd (upd (fun _ => none) a0 v0) a1 v1) a2 v2) a3 v3) := entry_eq _
theorem entry6 {a0 a1 a2 a3 a4 a5 : Str} {v0 v1 v2 v3 v4 v5 : Value} : (fun y => [(a0, v0), (a1, v1), (a2, v2), (a3, v3), (a4, v4), (a5, v5)].reverse.lookup y) = (upd (upd (upd (upd (upd (upd (fun _ => none) a0 v0) a1 v1) a2 v2) a3 v3) a4 v4) a5 v5) := entry_eq _
noncomputable def RDiv (a b : Int) (v : Value) (N : Led) : Prop := ∃ r k k', v = .ref r ∧ (r, tupObj [.int (a / b) k, .int (a % b) k']) ∈ N
theorem glob_name {g0 : Cx} {A : Around} {E : Value → Shared → Prop} {h₀ : Heap} {L : Addr} {m : Loc} {N : Led} {cn : Str} {cs : Scope} {a0 : Addr} {ccd : Value} {cl : List (Str × Addr)} {mg mb : Loc}
    {x : Str} {pos : Pos} {v : Value} {Q : Value → Loc → Led → Prop} (G : Gd mg mb h₀) (hk : cs.kind = .function) (hx : cs.names.lookup x = some .globalImplicit) (hv : mg x = some v) (h : Q v m N)
    (hd : (x == ("__debug__" : Str)) = false := by decide) : WB g0 A E h₀ L m N (eval (.Name x pos) (envX cn cs L a0 ccd cl)) Q :=
  ⟨fun s I => Calls.Name_function_global hk hx (Calls.loadGlobal_global (env := envX cn cs L a0 ccd cl) (G.g.keeps I.fr.keep) hv ⟨m, N, I, .refl .., h⟩) hd⟩
theorem bi_name {g0 : Cx} {A : Around} {E : Value → Shared → Prop} {h₀ : Heap} {L : Addr} {m : Loc} {N : Led} {cn : Str} {cs : Scope} {a0 : Addr} {ccd : Value} {cl : List (Str × Addr)} {mg mb : Loc}
    {x : String} {pos : Pos} {v : Value} {Q : Value → Loc → Led → Prop} (G : Gd mg mb h₀) (hk : cs.kind = .function) (hx : cs.names.lookup (Str.ofString x) = some .globalImplicit) (hb : (x, v) ∈ biTable) (h : Q v m N)
    (hd : ((Str.ofString x) == ("__debug__" : Str)) = false := by decide) : WB g0 A E h₀ L m N (eval (.Name (Str.ofString x) pos) (envX cn cs L a0 ccd cl)) Q :=
  ⟨fun s I => Calls.Name_function_global hk hx (Calls.loadGlobal_builtin (env := envX cn cs L a0 ccd cl) (G.g.keeps I.fr.keep) (G.bi _ hb).1 (G.b.keeps I.fr.keep) (G.bi _ hb).2 ⟨m, N, I, .refl .., h⟩) hd⟩
theorem e_callf {g0 : Cx} {A : Around} {E : Value → Shared → Prop} {h₀ : Heap} {L : Addr} {m : Loc} {N : Led} {cn : Str} {cs : Scope} {a0 : Addr} {ccd : Value} {cl : List (Str × Addr)} {mg mb : Loc}
    {x : String} {f i : Nat} {p pos : Pos} {es : List Expr} {Q : Value → Loc → Led → Prop} (G : Gd mg mb h₀) (hk : cs.kind = .function) (hx : cs.names.lookup (Str.ofString x) = some .globalImplicit) (hf : (x, f, i) ∈ fnTable) (hp : es.all plainArg = true)
    (h : argsWB g0 A E h₀ L (envX cn cs L a0 ccd cl) es (fun vs m' N' => WB g0 A E h₀ L m' N' (call (.ref (f + 1)) vs) Q) m N)
    (hd : ((Str.ofString x) == ("__debug__" : Str)) = false := by decide) : WB g0 A E h₀ L m N (eval (.Call (.Name (Str.ofString x) p) es [] pos) (envX cn cs L a0 ccd cl)) Q := by
  obtain ⟨e, pm, ho, _⟩ := G.fn _ hf
  refine e_call_name (glob_name G hk hx e ?_ hd)
  refine call_f (fo := fnObj x i pm f) hp rfl ?_
  exact args_mono h fun vs m' N' q => ⟨.inl ho, q⟩
theorem e_callb {g0 : Cx} {A : Around} {E : Value → Shared → Prop} {h₀ : Heap} {L : Addr} {m : Loc} {N : Led} {cn : Str} {cs : Scope} {a0 : Addr} {ccd : Value} {cl : List (Str × Addr)} {mg mb : Loc}
    {x id : String} {p pos : Pos} {es : List Expr} {Q : Value → Loc → Led → Prop} (G : Gd mg mb h₀) (hk : cs.kind = .function) (hx : cs.names.lookup (Str.ofString x) = some .globalImplicit) (hb : (x, .builtin id) ∈ biTable) (hp : es.all plainArg = true)
    (h : argsWB g0 A E h₀ L (envX cn cs L a0 ccd cl) es (fun vs m' N' => WB g0 A E h₀ L m' N' (call (.builtin id) vs) Q) m N)
    (hd : ((Str.ofString x) == ("__debug__" : Str)) = false := by decide) : WB g0 A E h₀ L m N (eval (.Call (.Name (Str.ofString x) p) es [] pos) (envX cn cs L a0 ccd cl)) Q :=
  e_call_name (bi_name G hk hx hb (call_b hp h) hd)
theorem e_meth {g0 : Cx} {A : Around} {E : Value → Shared → Prop} {h₀ : Heap} {L : Addr} {m : Loc} {N : Led} {env : Env}
    {o : Expr} {name : Str} {ap pos : Pos} {es : List Expr} {Q : Value → Loc → Led → Prop} (ho : attributeBase o name env (eval o env) = eval o env) (hf : methodCallForm (es.length + 0) (backTo pos (starEach es env)) [] = true) (hl : (ap.endLine == pos.line) = true)
    (h : WB g0 A E h₀ L m N (eval o env) fun ov m' N' => ∀ pl, WB g0 A E h₀ L m' N' (getMethod ov name pl) fun fv m'' N'' =>
      WB g0 A E h₀ L m'' N'' (callWith pos fv.1 fv.2 (backTo pos (starEach es env)) []) Q) :
    WB g0 A E h₀ L m N (eval (.Call (.Attribute o name ap) es [] pos) env) Q := by
  rw [arm_eval_Call, ho]
  refine WB.bind (h.mono fun ov m' N' q => WB.at_ ?_)
  show WB _ _ _ _ _ _ _ (methodCall o name ap pos env ov (es.length + 0) (backTo pos (starEach es env)) []) _
  unfold methodCall
  rw [hf]
  refine WB.bind (WB.holding ?_)
  show WB _ _ _ _ _ _ _ (getMethod ov name _) _
  refine (q _).mono fun fv m'' N'' q' => ?_
  show WB _ _ _ _ _ _ _ (methodCallPos true o env ap pos >>= fun callPos => callWith callPos fv.1 fv.2 (backTo pos (starEach es env)) []) _
  unfold methodCallPos
  rw [hl]
  exact WB.bpure q'
theorem attrBase_name {x name : Str} {p : Pos} {env : Env} {whole : Sem Value} : attributeBase (.Name x p) name env whole = whole := rfl
theorem call_b1 {g0 : Cx} {A : Around} {E : Value → Shared → Prop} {h₀ : Heap} {L : Addr} {m : Loc} {N : Led} {env : Env}
    {pos : Pos} {id : String} {v : Value} {es : List Expr} {Q : Value → Loc → Led → Prop} (hp : es.all plainArg = true)
    (h : argsWB g0 A E h₀ L env es (fun vs m' N' => WB g0 A E h₀ L m' N' (call (.builtin id) (v :: vs)) Q) m N) :
    WB g0 A E h₀ L m N (callWith pos (.builtin id) [v] (backTo pos (starEach es env)) []) Q := call_b hp h
noncomputable def RInt (i : Int) (v : Value) (_ : Led) : Prop := ∃ t, v = .int i t
section
variable {g0 : Cx} {mg mb : Loc} {A : Around} {E : Value → Shared → Prop} {h₀ : Heap} {L : Addr} {m : Loc} {N : Led} {f : Value} {vs : List Value} {Q : Value → Loc → Led → Prop}
theorem WB.callI {z : Int} (G : Gd mg mb h₀)
    (hs : ∀ s, OkAt mg mb g0 s → (∀ a o, At h₀ N a o → s.heap.get? a = some o) → wpAny (model g0.prog g0.w) A (call f vs) (Back g0 s.heap (RInt z)) E s)
    (h : ∀ t new, Q (.int z t) m (new ++ N)) : WB g0 A E h₀ L m N (call f vs) Q := WB.callS G hs fun v new ⟨t, e⟩ _ => e ▸ h t new
theorem WB.callK {f' : Tok → Value} (G : Gd mg mb h₀)
    (hs : ∀ s, OkAt mg mb g0 s → (∀ a o, At h₀ N a o → s.heap.get? a = some o) → wpAny (model g0.prog g0.w) A (call f vs) (Back g0 s.heap fun v _ => ∃ k, v = f' k) E s)
    (h : ∀ t new, Q (f' t) m (new ++ N)) : WB g0 A E h₀ L m N (call f vs) Q := WB.callS G hs fun v new ⟨t, e⟩ _ => e ▸ h t new
theorem WB.callD {a b : Int} (G : Gd mg mb h₀)
    (hs : ∀ s, OkAt mg mb g0 s → (∀ a o, At h₀ N a o → s.heap.get? a = some o) → wpAny (model g0.prog g0.w) A (call f vs) (Back g0 s.heap (RDiv a b)) E s)
    (h : ∀ r k k' new, (r, tupObj [.int (a / b) k, .int (a % b) k']) ∈ new → (∀ p ∈ new, Fresh h₀ L N p.1) → Q (.ref r) m (new ++ N)) : WB g0 A E h₀ L m N (call f vs) Q :=
  WB.callS G hs fun v new ⟨r, k, k', e, hm⟩ hf => e ▸ h r k k' new hm hf
end
end Mine

end

section
open PySem PySem.W PyProof.Rows
namespace Mine
noncomputable def Holds (N N' : Led) (d : Addr) (o : Obj) : Prop := ∀ p ∈ N, p = (d, o) ∨ p ∈ N'
theorem filt_nodup {N : Led} {d : Addr} (nd : (N.map (·.1)).Nodup) (o' : Obj) : (((d, o') :: N.filter (fun p => p.1 != d)).map (·.1)).Nodup := by
  rw [List.map_cons, List.nodup_cons]
  refine ⟨fun hm => ?_, nd.sublist (List.Sublist.map _ List.filter_sublist)⟩
  refine exE1 (List.mem_map.mp hm) fun p h_0 => anE2 h_0 fun hp e => ?_
  clear h_0
  have := (List.mem_filter.mp hp).2
  simp only [bne_iff_ne, ne_eq] at this
  exact this e
theorem pair_eq_of_nd : ∀ {N : Led} {p q : Addr × Obj}, (N.map (·.1)).Nodup → p ∈ N → q ∈ N → p.1 = q.1 → p = q
  | [], _, _, _, h, _, _ => nomatch h
  | r :: N, p, q, nd, hp, hq, e => by
    rw [List.map_cons, List.nodup_cons] at nd
    rcases List.mem_cons.mp hp with ep | hp2 <;> rcases List.mem_cons.mp hq with eq | hq2
    · rw [ep, eq]
    · exact absurd (List.mem_map.mpr ⟨q, hq2, by rw [← e, ep]⟩) nd.1
    · exact absurd (List.mem_map.mpr ⟨p, hp2, by rw [e, eq]⟩) nd.1
    · exact pair_eq_of_nd nd.2 hp2 hq2 e
theorem holds_filter {N : Led} {d : Addr} {o : Obj} (nd : (N.map (·.1)).Nodup) (hm : (d, o) ∈ N) : ∀ p ∈ N, p = (d, o) ∨ p ∈ N.filter (fun p => p.1 != d) := fun p hp => by
  by_cases e : p.1 = d
  · exact .inl (pair_eq_of_nd nd hp hm e)
  · exact .inr (List.mem_filter.mpr ⟨hp, by simpa using e⟩)
structure ExtM (M : List Addr) (h h' : Heap) (new : Led) : Prop where
  keep : ∀ b o, h.get? b = some o → ¬ isTab b → (b ∈ M → isCode o) → h'.get? b = some o
  made : ∀ p ∈ new, h'.get? p.1 = some p.2 ∧ (p.1 ∈ M ∨ h.objs.size ≤ p.1)
  nd : (new.map (·.1)).Nodup
  size : h.objs.size ≤ h'.objs.size
noncomputable def BackM (g0 : Cx) (M : List Addr) (h : Heap) (R : Value → Led → Prop) (v : Value) (s' : Shared) : Prop :=
  s'.gens = g0.gens ∧ s'.os = g0.os ∧ TabOK g0 s'.heap ∧ ∃ new, ExtM M h s'.heap new ∧ R v new
section
variable {α β : Type} {prog : Program} {w : World} {g0 : Cx} {A : Around} {E : Value → Shared → Prop} {h₀ : Heap} {L : Addr} {m : Loc} {N : Led} {env : Env} {mg mb : Loc}
theorem WB.change {t : Sem α} {d : Addr} {o : Obj} {R : α → Obj → Prop} {Q : α → Loc → Led → Prop} (hm : (d, o) ∈ N) (hc : ¬ isCode o)
    (lem : ∀ s (Q' : α → Shared → Prop) E', (∀ a o, At h₀ N a o → s.heap.get? a = some o) → (∀ a h' o' tk, Heap.SameBut d s.heap h' → h'.get? d = some o' → R a o' → Q' a { s with heap := h', toks := tk }) → wpAny (model g0.prog g0.w) A t Q' E' s)
    (h : ∀ a o' N', R a o' → Holds N N' d o → (d, o') ∈ N' → Q a m N') : WB g0 A E h₀ L m N t Q := ⟨fun s I => wpAny_tk (lem s _ _ (fun _ _ x => I.at x) fun a h' o' tk sb hg r ht => by
  have kb : ∀ b o, s.heap.get? b = some o → b ≠ d → h'.get? b = some o := fun b o e hb => (sb.2 b hb).trans e
  refine anE4 (I.led _ hm) fun hd1 hd2 hd3 hd4 => ?_
  refine ⟨m, (d, o') :: N.filter (fun p => p.1 != d), ⟨I.gens, I.os, I.tab.keeps (fun b ob hb e => kb b ob e fun q => hd4 (q ▸ hb)) (fun b ob e hco => kb b ob e fun q => ?_), ⟨I.fr.ns.sameBut sb (Ne.symm hd2), fun b ob e => kb b ob (I.fr.keep b ob e) fun q => ?_, I.fr.above⟩, fun p hp => ?_, filt_nodup I.nd o', I.t54, Nat.le_trans I.fl.1 ht, Nat.lt_of_lt_of_le I.fl.2 ht⟩,
    ⟨fun b ob e hL hN hT => kb b ob e fun q => ?_, fun p hp => .inl ?_, Nat.le_of_eq sb.1.symm⟩, h a o' _ r (fun p hp => (holds_filter I.nd hm p hp).imp id (.tail _)) (.head _)⟩
  · subst q; rw [hd1] at e; cases e; exact hc hco
  · subst q; rw [hd3] at e; cases e
  · rcases List.mem_cons.mp hp with rfl | hp
    · exact ⟨hg, hd2, hd3, hd4⟩
    · have hp2 := List.mem_filter.mp hp
      have := I.led p hp2.1
      exact ⟨kb _ _ this.1 (by simpa using hp2.2), this.2⟩
  · subst q; rw [hd1] at e; cases e; exact hc (hN (List.mem_map_of_mem hm))
  · rcases List.mem_cons.mp hp with rfl | hp
    · exact List.mem_map.mpr ⟨_, hm, rfl⟩
    · exact List.mem_map_of_mem (List.mem_filter.mp hp).1)⟩
end
namespace hWB_callM
noncomputable def st_ (g0 : Mine.Cx) (A : PySem.Around) (E : PySem.Value → PySem.Shared → Prop) (h₀ : PySem.Heap) (L : PySem.Addr) (m : Mine.Loc) (N : Mine.Led) (mg mb : Mine.Loc) (f : PySem.Value) (vs : List PySem.Value) (d : PySem.Addr) (o : PySem.Obj) (R : PySem.Value → Mine.Led → Prop) (Q : PySem.Value → Mine.Loc → Mine.Led → Prop) : Prop := ∀ (G : Gd mg mb h₀) (hm : (d, o) ∈ N) (hc : ¬ isCode o) (hs : ∀ s, OkAt mg mb g0 s → (∀ a o, At h₀ N a o → s.heap.get? a = some o) → (∀ p ∈ N, ¬ isTab p.1) → wpAny (model g0.prog g0.w) A (call f vs) (BackM g0 [d] s.heap R) E s) (h : ∀ v new N', R v new → Holds N N' d o → (∀ p ∈ new, p ∈ N') → Q v m N'), WB g0 A E h₀ L m N (call f vs) Q
noncomputable abbrev T_ := (((Mine.Cx × (PySem.Around × (PySem.Value → PySem.Shared → Prop))) × ((PySem.Heap × PySem.Addr) × (Mine.Loc × Mine.Led))) × (((Mine.Loc × Mine.Loc) × (PySem.Value × (List PySem.Value))) × ((PySem.Addr × PySem.Obj) × ((PySem.Value → Mine.Led → Prop) × (PySem.Value → Mine.Loc → Mine.Led → Prop)))))
theorem ne_ : Nonempty T_ := ⟨by repeat' (first | apply Prod.mk | exact default | exact nAr | exact nCx | exact nSh | constructor)⟩
noncomputable def Q_ (p : T_) : Prop := st_ p.1.1.1 p.1.1.2.1 p.1.1.2.2 p.1.2.1.1 p.1.2.1.2 p.1.2.2.1 p.1.2.2.2 p.2.1.1.1 p.2.1.1.2 p.2.1.2.1 p.2.1.2.2 p.2.2.1.1 p.2.2.1.2 p.2.2.2.1 p.2.2.2.2
noncomputable def w_ : T_ := @Classical.epsilon _ ne_ fun p => ¬ Q_ p
noncomputable def h₀ := w_.1.2.1.1
noncomputable def L := w_.1.2.1.2
noncomputable def m := w_.1.2.2.1
noncomputable def N := w_.1.2.2.2
noncomputable def d := w_.2.2.1.1
noncomputable def o := w_.2.2.1.2
theorem main_ : st_ w_.1.1.1 w_.1.1.2.1 w_.1.1.2.2 h₀ L m N w_.2.1.1.1 w_.2.1.1.2 w_.2.1.2.1 w_.2.1.2.2 d o w_.2.2.2.1 w_.2.2.2.2 := by
  intro G hm hc hs h
  exact (⟨fun s I => by
  have hsz : h₀.objs.size ≤ s.heap.objs.size := Nat.le_trans I.fr.above (Nat.le_of_lt I.fr.ns.lt)
  refine wpAny_mono (wpAny_toks_of (n := s.toks) (Nat.le_refl _) (hs s ⟨I.gens, I.os, I.tab, Nat.lt_of_lt_of_le I.t54.1 hsz, G.keeps fun b o e _ => I.fr.keep b o e, I.fl.2⟩ (fun a o x => I.at x) (fun p hp => (I.led p hp).2.2.2))) (fun v s' b => ?_) fun _ _ e => e.2
  refine via fun ξ κ=>?_
  obtain ⟨ht, b1, b2, b3, new, X, r⟩ := b
  refine κ ?_;clear κ ξ
  refine anE4 (I.led _ hm) fun hd1 hd2 hd3 hd4 => ?_
  have kb : ∀ b o, s.heap.get? b = some o → ¬ isTab b → b ≠ d → s'.heap.get? b = some o := fun b o e n q => X.keep b o e n fun hm => absurd (List.mem_singleton.mp hm) q
  have nL : ¬ isTab L := fun hb => by
    have := Nat.lt_of_le_of_lt (isTab_le hb) (Nat.lt_of_lt_of_le I.t54.1 I.fr.above)
    exact Nat.lt_irrefl _ this
  have n0 : ∀ b o, h₀.get? b = some o → s'.heap.get? b = some o := fun b o e => by
    by_cases hb : isTab b
    · rw [I.t54.2 b hb] at e; cases e
    · exact kb b o (I.fr.keep b o e) hb fun q => by subst q; rw [hd3] at e; cases e
  refine ⟨m, new ++ N.filter (fun p => p.1 != d), ⟨b1, b2, b3, ⟨?_, n0, I.fr.above⟩, fun p hp => ?_, ?_, I.t54, Nat.le_trans I.fl.1 ht, Nat.lt_of_lt_of_le I.fl.2 ht⟩, ⟨fun b ob e hL hN nT => X.keep b ob e nT fun q => ?_, fun p hp => ?_, X.size⟩,
    h v new _ r (fun p hp => (holds_filter I.nd hm p hp).imp id (List.mem_append_right _)) fun p hp => List.mem_append_left _ hp⟩
  · refine exE3 I.fr.ns fun o es ep h_0 => anE2 h_0 fun e rr => ?_
    clear h_0
    exact ⟨o, es, ep, kb _ _ e nL hd2.symm, rr⟩
  · rcases List.mem_append.mp hp with hp | hp
    · refine anE2 (X.made p hp) fun m1 m2 => ?_
      rcases m2 with m2 | m2
      · have := List.mem_singleton.mp m2
        refine ⟨m1, ?_⟩
        rw [this]; exact ⟨hd2, hd3, hd4⟩
      · have hge := Nat.le_trans hsz m2
        exact ⟨m1, Nat.ne_of_gt (Nat.lt_of_lt_of_le I.fr.ns.lt m2), Heap.get?_none_of_le hge, fun hb => absurd (isTab_le hb) (Nat.not_le.mpr (Nat.lt_of_lt_of_le I.t54.1 hge))⟩
    · have hp2 := List.mem_filter.mp hp
      have := I.led p hp2.1
      exact ⟨kb _ _ this.1 this.2.2.2 (by simpa using hp2.2), this.2⟩
  · rw [List.map_append]
    refine List.nodup_append.mpr ⟨X.nd, I.nd.sublist (List.Sublist.map _ List.filter_sublist), fun a ha b hb e => ?_⟩
    subst e
    refine exE1 (List.mem_map.mp ha) fun p h_0 => anE2 h_0 fun hp e_1 => ?_
    clear h_0
    subst e_1
    refine exE1 (List.mem_map.mp hb) fun q h_0 => anE2 h_0 fun hq e => ?_
    clear h_0
    have hq2 := List.mem_filter.mp hq
    have h1 := Heap.lt_size (I.led q hq2.1).1
    rcases (X.made p hp).2 with h2 | h2
    · have := List.mem_singleton.mp h2
      rw [show q.1 = p.1 from e, this] at hq2
      simp at hq2
    · rw [show q.1 = p.1 from e] at h1
      exact absurd h1 (Nat.not_lt.mpr h2)
  · have := List.mem_singleton.mp q
    subst this
    exact hN (List.mem_map_of_mem hm)
  · rcases List.mem_append.mp hp with hp | hp
    · rcases (X.made p hp).2 with h2 | h2
      · rw [List.mem_singleton.mp h2]; exact .inl (List.mem_map_of_mem hm)
      · exact .inr h2
    · exact .inl (List.mem_map_of_mem (List.mem_filter.mp hp).1)⟩)
end hWB_callM
theorem WB.callM {g0 A E h₀ L m N mg mb f vs d o R Q} : hWB_callM.st_ g0 A E h₀ L m N mg mb f vs d o R Q := Mine.hk hWB_callM.ne_ (P := hWB_callM.Q_) hWB_callM.main_ (((g0, (A, E)), ((h₀, L), (m, N))), (((mg, mb), (f, vs)), ((d, o), (R, Q))))
section
variable {α β : Type} {prog : Program} {w : World} {g0 : Cx} {A : Around} {E : Value → Shared → Prop} {h₀ : Heap} {L : Addr} {m : Loc} {N : Led} {env : Env} {mg mb : Loc}
theorem bindL_floor {kk : Str → Option NameKind} : ∀ {binds : List (Str × Value)} {m : Loc}, (∀ x ∈ binds, x.1 ≠ floorKey) → bindL kk binds m floorKey = m floorKey
  | [], _, _ => rfl
  | (n, v) :: r, m, h => by
    rw [bindL, bindL_floor (fun x hx => h x (.tail _ hx))]
    split
    · show (if floorKey = n then some v else m floorKey) = _
      rw [if_neg (fun e : floorKey = n => h (n, v) (.head _) e.symm)]
    · rfl
end
namespace henterC
noncomputable def st_ (g0 : Mine.Cx) (A : PySem.Around) (E : PySem.Value → PySem.Shared → Prop) (mg mb : Mine.Loc) (name : String) (f i : Nat) (args : List PySem.Value) (binds : List (PySem.Str × PySem.Value)) (R : PySem.Value → Mine.Led → Prop) (s : PySem.Shared) (n : Nat) : Prop := ∀ (hf : (name, f, i) ∈ fnTable) (O : OkAt mg mb g0 s) (Ro : Room A (n + 1)) (hbind : ∀ pm, bindArgs (fnX (Str.ofString name) (Str.ofString name) (paramsOf i) (bodyOf i) (scopeOf i) [] .none .none .none pm none (.ref f) .none) ⟨args, []⟩ = pure binds) (hkind : ∀ n, ∀ x ∈ binds, (scopeOf i).names.lookup x.1 = some .local ∨ ((scopeOf i).names.lookup x.1 = some .cell ∧ ((cellsFrom n (scopeOf i).names []).lookup x.1).isSome = true)) (hnd : ((cellsFrom 0 (scopeOf i).names []).map (·.1)).Nodup) (hco : (scopeOf i).isCoroutine = false) (hgen : (scopeOf i).isGenerator = false) (hk : (scopeOf i).kind = .function) (h : ∀ L cells, 54 < L → Gd mg mb (hideT s.heap) → Room (A.deeper (envX (Str.ofString name) (scopeOf i) L (f + 1) (.ref f) (cellsFrom (L + 1) (scopeOf i).names []))) n →
      CellsAre (bindC (envX (Str.ofString name) (scopeOf i) L (f + 1) (.ref f) (cellsFrom (L + 1) (scopeOf i).names [])).kindOf binds fun _ => none) (cellsFrom (L + 1) (scopeOf i).names []) cells →
      WB g0 (A.deeper (envX (Str.ofString name) (scopeOf i) L (f + 1) (.ref f) (cellsFrom (L + 1) (scopeOf i).names []))) (fun _ _ => False) (hideT s.heap) L
        (bindL (envX (Str.ofString name) (scopeOf i) L (f + 1) (.ref f) (cellsFrom (L + 1) (scopeOf i).names [])).kindOf binds fun _ => none) cells
        (execs (bodyOf i) (envX (Str.ofString name) (scopeOf i) L (f + 1) (.ref f) (cellsFrom (L + 1) (scopeOf i).names []))) fun fl m N => R (match fl with | .ret v => v | _ => .none) N) (hfk : (scopeOf i).names.lookup floorKey = none), wpAny (model g0.prog g0.w) A (call (.ref (f + 1)) args) (Back g0 s.heap R) E s
noncomputable abbrev T_ := (((Mine.Cx × (PySem.Around × (PySem.Value → PySem.Shared → Prop))) × (Mine.Loc × (Mine.Loc × String))) × ((Nat × (Nat × (List PySem.Value))) × (((List (PySem.Str × PySem.Value)) × (PySem.Value → Mine.Led → Prop)) × (PySem.Shared × Nat))))
theorem ne_ : Nonempty T_ := ⟨by repeat' (first | apply Prod.mk | exact default | exact nAr | exact nCx | exact nSh | constructor)⟩
noncomputable def Q_ (p : T_) : Prop := st_ p.1.1.1 p.1.1.2.1 p.1.1.2.2 p.1.2.1 p.1.2.2.1 p.1.2.2.2 p.2.1.1 p.2.1.2.1 p.2.1.2.2 p.2.2.1.1 p.2.2.1.2 p.2.2.2.1 p.2.2.2.2
noncomputable def w_ : T_ := @Classical.epsilon _ ne_ fun p => ¬ Q_ p
noncomputable def g0 := w_.1.1.1
noncomputable def A := w_.1.1.2.1
noncomputable def E := w_.1.1.2.2
noncomputable def name := w_.1.2.2.2
noncomputable def f := w_.2.1.1
noncomputable def i := w_.2.1.2.1
noncomputable def binds := w_.2.2.1.1
noncomputable def s := w_.2.2.2.1
noncomputable def n := w_.2.2.2.2
theorem main_ : st_ g0 A E w_.1.2.1 w_.1.2.2.1 name f i w_.2.1.2.2 binds w_.2.2.1.2 s n := by
  intro hf O Ro hbind hkind hnd hco hgen hk h hfk
  have nf : ∀ kk : Str → Option NameKind, bindL kk binds (fun _ => none) floorKey = none := fun kk => bindL_floor fun x hx e => by
    have := hkind 0 x hx
    rw [e, hfk] at this
    rcases this with h | ⟨h, _⟩ <;> cases h
  refine exE1 ((O.gd.fn _ hf).2) fun pm h_0 => anE2 h_0 fun hfn hcr => ?_
  clear h_0
  refine wpAny_call (codeAny_call_function (fd := fnX (Str.ofString name) (Str.ofString name) (paramsOf i) (bodyOf i) (scopeOf i) [] .none .none .none pm none (.ref f) .none) (body := bodyOf i)
    (by have := Ro.depth; show A.depth < 1000; omega) hfn rfl hco hgen rfl hcr (BindsTo.of_eq (hbind pm) _ _ _ _ ?_))
  refine wpAny_mono (wpAny_toks_of (n := s.toks) (Nat.le_refl _) (wpAny_newFunctionEnv_cells hk (hkind _) (E := fun _ _ => False) (Q := fun env' s' => env' = newEnv (scopeOf i) s.heap.objs.size mainGlobals (cellsFrom (s.heap.objs.size + 1) (scopeOf i).names []) (Str.ofString name ++ ".<locals>.") (some (f + 1)) (.ref f) none builtinsNs ∧
    InCallC s env'.locals (bindL env'.kindOf binds fun _ => none) env'.cells (bindC env'.kindOf binds fun _ => none) s') fun env' he s' x => ⟨he, x⟩)) (fun env' s' ⟨htk, he, x⟩ => ?_) fun _ _ e => e.2.elim
  subst he
  refine ⟨O.gd.lim.keeps x.toInCall.keep, codeAny_func ?_⟩
  refine exE2 x.done fun h₁ tk h_0 => anE2 h_0 fun e_2 _ => ?_
  clear h_0
  subst e_2
  have hk₁ := x.toInCall.keep
  refine exE1 (Cl.news (h₀ := s.heap) (Nat.le_refl _) fun n c hm => ⟨x.cell n c (lookup_of_mem_nodup (cellsFrom_names (scopeOf i).names 0 (s.heap.objs.size + 1) [] [] rfl ▸ hnd) hm), x.above n c hm⟩) fun cells h_0 => anE2 h_0 fun NC Y => ?_
  clear h_0
  have hL : 54 < s.heap.objs.size := O.t54
  have t0 : ∀ b, isTab b → (hideT s.heap).get? b = none := fun b hb => by
    cases q : (hideT s.heap).get? b with
    | none => rfl
    | some o => exact absurd hb (hideT_tab q)
  have cge : ∀ p ∈ cells, s.heap.objs.size < p.1 := fun p hp => by
    have : ∀ {cs : List (Str × Addr)} {cells : Led} {cm : Loc}, CellsAre cm cs cells → (∀ n c, (n, c) ∈ cs → s.heap.objs.size < c) → ∀ p ∈ cells, s.heap.objs.size < p.1 := fun {cs cells cm} X => by
      induction X with
      | nil => intro _ p hp; exact nomatch hp
      | cons _ _ ih => intro hx p hp; exact (List.mem_cons.mp hp).elim (fun e => by subst e; exact hx _ _ (.head _)) fun hp => ih (fun n c hm => hx n c (.tail _ hm)) p hp
    exact this Y x.above p hp
  have cnd : (cells.map (·.1)).Nodup := by
    have : ∀ {cs : List (Str × Addr)} {cells : Led} {cm : Loc}, CellsAre cm cs cells → (cs.Pairwise fun x y => x.2 ≠ y.2) → (cells.map (·.1)).Nodup ∧ ∀ p ∈ cells, ∃ n, (n, p.1) ∈ cs := fun {cs cells cm} X => by
      induction X with
      | nil => exact fun _ => ⟨List.nodup_nil, fun p hp => nomatch hp⟩
      | @cons n c o cs cells hd _ ih =>
        intro hp
        rw [List.pairwise_cons] at hp
        refine anE2 (ih hp.2) fun a b => ?_
        refine ⟨List.nodup_cons.mpr ⟨fun hm => ?_, a⟩, fun p hp => ?_⟩
        · refine exE1 (List.mem_map.mp hm) fun q h_0 => anE2 h_0 fun hq e => ?_
          clear h_0
          refine exE1 (b q hq) fun n' hn' => ?_
          exact hp.1 _ hn' (e.symm)
        · rcases List.mem_cons.mp hp with rfl | hp
          · exact ⟨n, .head _⟩
          · obtain ⟨n', hn'⟩ := b p hp; exact ⟨n', .tail _ hn'⟩
    exact (this Y x.apart).1
  have I : Inv g0 (hideT s.heap) s.heap.objs.size (bindL (envX (Str.ofString name) (scopeOf i) s.heap.objs.size (f + 1) (.ref f) (cellsFrom (s.heap.objs.size + 1) (scopeOf i).names [])).kindOf binds fun _ => none) cells { s with heap := h₁, toks := tk } :=
    ⟨O.gens, O.os, O.tab.keeps (fun b o _ e => hk₁ b o e) fun b o e _ => hk₁ b o e, ⟨by rw [strip_none (nf _)]; exact x.toInCall.ns, fun b o e => hk₁ b o (of_hideT e), Nat.le_of_eq (hideT_size _)⟩, fun p hp => ⟨(NC p hp).1, (NC p hp).2.1, Heap.get?_none_of_le (by rw [hideT_size]; exact Nat.le_of_lt (cge p hp)), fun hb => absurd (isTab_le hb) (Nat.not_le.mpr (Nat.lt_trans hL (cge p hp)))⟩, cnd, ⟨by rw [hideT_size]; exact hL, t0⟩, by rw [flo_none (nf _)]; exact Nat.zero_le _, Nat.lt_of_lt_of_le O.pos htk⟩
  refine WB.runC I (WB.mono (h s.heap.objs.size cells hL (O.gd.keeps (HK.hide _)) (Ro.deeper _) Y) fun fl m' N' r s' I' S => ?_)
  refine ⟨I'.gens, I'.os, I'.tab, N', ⟨fun b o e nT => ?_, fun p hp => ⟨(I'.led p hp).1, (S.fresh p hp).elim (fun hm => ?_) fun hg => Nat.le_trans (Nat.le_of_lt x.toInCall.ns.lt) hg⟩, I'.nd, ?_⟩, r⟩
  · refine S.keep b o (hk₁ b o e) (Nat.ne_of_lt (Heap.lt_size e)) (fun hm => ?_) nT
    refine exE1 (List.mem_map.mp hm) fun q h_0 => anE2 h_0 fun hq e_3 => ?_
    clear h_0
    subst e_3
    exact absurd (Heap.lt_size e) (Nat.not_lt.mpr (Nat.le_of_lt (cge q hq)))
  · refine exE1 (List.mem_map.mp hm) fun q h_0 => anE2 h_0 fun hq e => ?_
    clear h_0
    rw [← show q.1 = p.1 from e]; exact Nat.le_of_lt (cge q hq)
  · have h1 := x.toInCall.ns.lt
    have h2 := S.size
    exact Nat.le_trans (Nat.le_of_lt h1) h2
end henterC
section
variable {α β : Type} {prog : Program} {w : World} {g0 : Cx} {A : Around} {E : Value → Shared → Prop} {h₀ : Heap} {L : Addr} {m : Loc} {N : Led} {env : Env} {mg mb : Loc}
theorem enterC {name : String} {f i : Nat} {args : List Value} {binds : List (Str × Value)} {R : Value → Led → Prop} {s : Shared} {n : Nat}
    (hf : (name, f, i) ∈ fnTable) (O : OkAt mg mb g0 s) (Ro : Room A (n + 1))
    (hbind : ∀ pm, bindArgs (fnX (Str.ofString name) (Str.ofString name) (paramsOf i) (bodyOf i) (scopeOf i) [] .none .none .none pm none (.ref f) .none) ⟨args, []⟩ = pure binds)
    (hkind : ∀ n, ∀ x ∈ binds, (scopeOf i).names.lookup x.1 = some .local ∨ ((scopeOf i).names.lookup x.1 = some .cell ∧ ((cellsFrom n (scopeOf i).names []).lookup x.1).isSome = true))
    (hnd : ((cellsFrom 0 (scopeOf i).names []).map (·.1)).Nodup)
    (hco : (scopeOf i).isCoroutine = false) (hgen : (scopeOf i).isGenerator = false) (hk : (scopeOf i).kind = .function)
    (h : ∀ L cells, 54 < L → Gd mg mb (hideT s.heap) → Room (A.deeper (envX (Str.ofString name) (scopeOf i) L (f + 1) (.ref f) (cellsFrom (L + 1) (scopeOf i).names []))) n →
      CellsAre (bindC (envX (Str.ofString name) (scopeOf i) L (f + 1) (.ref f) (cellsFrom (L + 1) (scopeOf i).names [])).kindOf binds fun _ => none) (cellsFrom (L + 1) (scopeOf i).names []) cells →
      WB g0 (A.deeper (envX (Str.ofString name) (scopeOf i) L (f + 1) (.ref f) (cellsFrom (L + 1) (scopeOf i).names []))) (fun _ _ => False) (hideT s.heap) L
        (bindL (envX (Str.ofString name) (scopeOf i) L (f + 1) (.ref f) (cellsFrom (L + 1) (scopeOf i).names [])).kindOf binds fun _ => none) cells
        (execs (bodyOf i) (envX (Str.ofString name) (scopeOf i) L (f + 1) (.ref f) (cellsFrom (L + 1) (scopeOf i).names []))) fun fl m N => R (match fl with | .ret v => v | _ => .none) N)
    (hfk : (scopeOf i).names.lookup floorKey = none := by rfl) :
    wpAny (model g0.prog g0.w) A (call (.ref (f + 1)) args) (Back g0 s.heap R) E s := Mine.hk henterC.ne_ (P := henterC.Q_) henterC.main_ (((g0, (A, E)), (mg, (mb, name))), ((f, (i, args)), ((binds, R), (s, n)))) hf O Ro hbind hkind hnd hco hgen hk h hfk
end
namespace henterM
noncomputable def st_ (g0 : Mine.Cx) (A : PySem.Around) (E : PySem.Value → PySem.Shared → Prop) (mg mb : Mine.Loc) (name qual : PySem.Str) (params : PySem.Arguments) (body : List PySem.Stmt) (scope : PySem.Scope) (cl : List (PySem.Str × PySem.Addr)) (doc pm ctv : PySem.Value) (f c' : PySem.Addr) (M : Mine.Led) (args : List PySem.Value) (binds : List (PySem.Str × PySem.Value)) (R : PySem.Value → Mine.Led → Prop) (s : PySem.Shared) (n : Nat) : Prop := ∀ (hfn : s.heap.get? f = some (fnMade name qual params body scope cl doc pm c' ctv)) (hcr : s.heap.CodeRec (.ref c') qual) (hM : ∀ p ∈ M, s.heap.get? p.1 = some p.2 ∧ ¬ isTab p.1 ∧ isLst p.2) (hMn : (M.map (·.1)).Nodup) (O : OkAt mg mb g0 s) (Ro : Room A (n + 1)) (hbind : bindArgs (fnX name qual params body scope cl .none .none doc pm none (.ref c') ctv) ⟨args, []⟩ = pure binds) (hloc : ∀ x ∈ binds, scope.names.lookup x.1 = some .local) (hcell : (scope.names.all fun x => x.2 != .cell) = true) (hco : scope.isCoroutine = false) (hgen : scope.isGenerator = false) (hk : scope.kind = .function) (h : ∀ L h₀, 54 < L → Gd mg mb h₀ → Room (A.deeper (envX qual scope L f (.ref c') cl)) n → (∀ b o, s.heap.get? b = some o → ¬ isTab b → b ∉ M.map (·.1) → h₀.get? b = some o) → (∀ b o, h₀.get? b = some o → ¬ isTab b) →
      WB g0 (A.deeper (envX qual scope L f (.ref c') cl)) (fun _ _ => False) h₀ L (fun y => binds.reverse.lookup y) M
        (execs body (envX qual scope L f (.ref c') cl)) fun fl m N => R (match fl with | .ret v => v | _ => .none) N) (hfk : scope.names.lookup floorKey = none), wpAny (model g0.prog g0.w) A (call (.ref f) args) (BackM g0 (M.map (·.1)) s.heap R) E s
noncomputable abbrev T_ := ((((Mine.Cx × PySem.Around) × ((PySem.Value → PySem.Shared → Prop) × (Mine.Loc × Mine.Loc))) × ((PySem.Str × (PySem.Str × PySem.Arguments)) × ((List PySem.Stmt) × (PySem.Scope × (List (PySem.Str × PySem.Addr)))))) × (((PySem.Value × PySem.Value) × (PySem.Value × (PySem.Addr × PySem.Addr))) × ((Mine.Led × ((List PySem.Value) × (List (PySem.Str × PySem.Value)))) × ((PySem.Value → Mine.Led → Prop) × (PySem.Shared × Nat)))))
theorem ne_ : Nonempty T_ := ⟨by repeat' (first | apply Prod.mk | exact default | exact nAr | exact nCx | exact nSh | constructor)⟩
noncomputable def Q_ (p : T_) : Prop := st_ p.1.1.1.1 p.1.1.1.2 p.1.1.2.1 p.1.1.2.2.1 p.1.1.2.2.2 p.1.2.1.1 p.1.2.1.2.1 p.1.2.1.2.2 p.1.2.2.1 p.1.2.2.2.1 p.1.2.2.2.2 p.2.1.1.1 p.2.1.1.2 p.2.1.2.1 p.2.1.2.2.1 p.2.1.2.2.2 p.2.2.1.1 p.2.2.1.2.1 p.2.2.1.2.2 p.2.2.2.1 p.2.2.2.2.1 p.2.2.2.2.2
noncomputable def w_ : T_ := @Classical.epsilon _ ne_ fun p => ¬ Q_ p
noncomputable def g0 := w_.1.1.1.1
noncomputable def A := w_.1.1.1.2
noncomputable def mg := w_.1.1.2.2.1
noncomputable def mb := w_.1.1.2.2.2
noncomputable def name := w_.1.2.1.1
noncomputable def qual := w_.1.2.1.2.1
noncomputable def params := w_.1.2.1.2.2
noncomputable def body := w_.1.2.2.1
noncomputable def scope := w_.1.2.2.2.1
noncomputable def cl := w_.1.2.2.2.2
noncomputable def doc := w_.2.1.1.1
noncomputable def pm := w_.2.1.1.2
noncomputable def ctv := w_.2.1.2.1
noncomputable def c' := w_.2.1.2.2.2
noncomputable def M := w_.2.2.1.1
noncomputable def binds := w_.2.2.1.2.2
noncomputable def s := w_.2.2.2.2.1
theorem main_ : st_ g0 A w_.1.1.2.1 mg mb name qual params body scope cl doc pm ctv w_.2.1.2.2.1 c' M w_.2.2.1.2.1 binds w_.2.2.2.1 s w_.2.2.2.2.2 := by
  intro hfn hcr hM hMn O Ro hbind hloc hcell hco hgen hk h hfk
  have nf : (fun y => binds.reverse.lookup y) floorKey = none := binds_floor fun x hx e => by have := hloc x hx; rw [e, hfk] at this; cases this
  refine wpAny_call (codeAny_call_def (fd := fnX name qual params body scope cl .none .none doc pm none (.ref c') ctv) (body := body) (binds := binds)
    (by have := Ro.depth; show A.depth < 1000; omega) hfn rfl O.gd.lim hcr rfl (BindsTo.of_eq hbind) (fun x hx => ?_) hloc (fun h₁ hns hk₁ => ?_) hco hgen hk)
  · have := List.all_eq_true.mp hcell x hx
    simpa using this
  have hL : 54 < s.heap.objs.size := O.t54
  have kept : ∀ b o, s.heap.get? b = some o → ¬ isTab b → b ∉ M.map (·.1) → (hideAll (hideT s.heap) (M.map (·.1))).get? b = some o := fun b o e n1 n2 => hideAll_get _ (hideT_get e n1) n2
  have G : Gd mg mb (hideAll (hideT s.heap) (M.map (·.1))) := O.gd.keepsL fun b o e n1 n2 => kept b o e n1 fun hm => by
    refine exE1 (List.mem_map.mp hm) fun q h_0 => anE2 h_0 fun hq e_4 => ?_
    clear h_0
    subst e_4
    rw [(hM q hq).1] at e; cases e; exact n2 (hM q hq).2.2
  have sz : (hideAll (hideT s.heap) (M.map (·.1))).objs.size = s.heap.objs.size := (hideAll_size _ _).trans (hideT_size _)
  have I : Inv g0 (hideAll (hideT s.heap) (M.map (·.1))) s.heap.objs.size (fun y => binds.reverse.lookup y) M { s with heap := h₁, toks := s.toks + binds.length } :=
    ⟨O.gens, O.os, O.tab.keeps (fun b o _ e => hk₁ b o e) fun b o e _ => hk₁ b o e, ⟨by rw [strip_none nf]; exact hns, fun b o e => hk₁ b o (of_hideT (of_hideAll _ e)), Nat.le_of_eq sz⟩, fun p hp => ⟨hk₁ _ _ (hM p hp).1, Nat.ne_of_lt (Heap.lt_size (hM p hp).1), hideAll_none _ (List.mem_map_of_mem hp), (hM p hp).2.1⟩, hMn, ⟨by rw [sz]; exact hL, fun b hb => by
      cases q : (hideAll (hideT s.heap) (M.map (·.1))).get? b with
      | none => rfl
      | some o => exact absurd hb (hideT_tab (of_hideAll _ q))⟩, by rw [flo_none nf]; exact Nat.zero_le _, Nat.lt_of_lt_of_le O.pos (Nat.le_add_right _ _)⟩
  refine WB.runC I (WB.mono (h s.heap.objs.size _ hL G (Ro.deeper _) kept (fun b o e => hideT_tab (of_hideAll _ e))) fun fl m' N' r s' I' S => ?_)
  refine ⟨I'.gens, I'.os, I'.tab, N', ⟨fun b o e nT hc => ?_, fun p hp => ⟨(I'.led p hp).1, (S.fresh p hp).imp id fun hg => Nat.le_trans (Nat.le_of_lt hns.lt) hg⟩, I'.nd, ?_⟩, r⟩
  · exact S.keep b o (hk₁ b o e) (Nat.ne_of_lt (Heap.lt_size e)) hc nT
  · have h1 := hns.lt
    have h2 := S.size
    exact Nat.le_trans (Nat.le_of_lt h1) h2
end henterM
section
variable {α β : Type} {prog : Program} {w : World} {g0 : Cx} {A : Around} {E : Value → Shared → Prop} {h₀ : Heap} {L : Addr} {m : Loc} {N : Led} {env : Env} {mg mb : Loc}
theorem enterM {name qual : Str} {params : Arguments} {body : List Stmt} {scope : Scope} {cl : List (Str × Addr)} {doc pm ctv : Value} {f c' : Addr} {M : Led} {args : List Value} {binds : List (Str × Value)} {R : Value → Led → Prop} {s : Shared} {n : Nat}
    (hfn : s.heap.get? f = some (fnMade name qual params body scope cl doc pm c' ctv)) (hcr : s.heap.CodeRec (.ref c') qual) (hM : ∀ p ∈ M, s.heap.get? p.1 = some p.2 ∧ ¬ isTab p.1 ∧ isLst p.2) (hMn : (M.map (·.1)).Nodup)
    (O : OkAt mg mb g0 s) (Ro : Room A (n + 1))
    (hbind : bindArgs (fnX name qual params body scope cl .none .none doc pm none (.ref c') ctv) ⟨args, []⟩ = pure binds)
    (hloc : ∀ x ∈ binds, scope.names.lookup x.1 = some .local)
    (hcell : (scope.names.all fun x => x.2 != .cell) = true)
    (hco : scope.isCoroutine = false) (hgen : scope.isGenerator = false) (hk : scope.kind = .function)
    (h : ∀ L h₀, 54 < L → Gd mg mb h₀ → Room (A.deeper (envX qual scope L f (.ref c') cl)) n → (∀ b o, s.heap.get? b = some o → ¬ isTab b → b ∉ M.map (·.1) → h₀.get? b = some o) → (∀ b o, h₀.get? b = some o → ¬ isTab b) →
      WB g0 (A.deeper (envX qual scope L f (.ref c') cl)) (fun _ _ => False) h₀ L (fun y => binds.reverse.lookup y) M
        (execs body (envX qual scope L f (.ref c') cl)) fun fl m N => R (match fl with | .ret v => v | _ => .none) N)
    (hfk : scope.names.lookup floorKey = none := by rfl) :
    wpAny (model g0.prog g0.w) A (call (.ref f) args) (BackM g0 (M.map (·.1)) s.heap R) E s := Mine.hk henterM.ne_ (P := henterM.Q_) henterM.main_ ((((g0, A), (E, (mg, mb))), ((name, (qual, params)), (body, (scope, cl)))), (((doc, pm), (ctv, (f, c'))), ((M, (args, binds)), (R, (s, n))))) hfn hcr hM hMn O Ro hbind hloc hcell hco hgen hk h hfk
variable {cn : Str} {cs : Scope} {a0 : Addr} {ccd : Value} {cl : List (Str × Addr)}
theorem e_cell {x : Str} {pos : Pos} {c : Addr} {o : Obj} {v : Value} {Q : Value → Loc → Led → Prop} (hk : cs.kind = .function) (hx : cs.names.lookup x = some .cell) (hc : cl.lookup x = some c) (hm : At h₀ N c o) (hd : o.data = .cell (some v)) (h : Q v m N)
    (hb : (x == ("__debug__" : Str)) = false := by decide) : WB g0 A E h₀ L m N (eval (.Name x pos) (envX cn cs L a0 ccd cl)) Q :=
  ⟨fun s I => wpAny_Name (wpAny_loadName_cell hk hx hc ⟨o, I.at hm, hd⟩ ⟨m, N, I, .refl .., h⟩) hb⟩
theorem e_free {x : Str} {pos : Pos} {c : Addr} {o : Obj} {v : Value} {Q : Value → Loc → Led → Prop} (hk : cs.kind = .function) (hx : cs.names.lookup x = some .free) (hc : cl.lookup x = some c) (hm : At h₀ N c o) (hd : o.data = .cell (some v)) (h : Q v m N)
    (hb : (x == ("__debug__" : Str)) = false := by decide) (hn : (x == ("__classdict__" : Str)) = false := by decide) : WB g0 A E h₀ L m N (eval (.Name x pos) (envX cn cs L a0 ccd cl)) Q :=
  ⟨fun s I => wpAny_Name (wpAny_loadName_free hk hx hc ⟨o, I.at hm, hd⟩ ⟨m, N, I, .refl .., h⟩ hn) hb⟩
theorem WB.cell {x : Str} {c : Addr} {o : Obj} {v₀ : Option Value} {v : Value} {Q : Unit → Loc → Led → Prop} (hk : cs.kind = .function) (hx : cs.names.lookup x = some .cell) (hc : cl.lookup x = some c) (hm : (c, o) ∈ N) (hd : o.data = .cell v₀)
    (h : ∀ o' N', o'.data = .cell (some v) → Holds N N' c o → (c, o') ∈ N' → Q () m N') : WB g0 A E h₀ L m N (storeName (envX cn cs L a0 ccd cl) x v) Q :=
  WB.change (R := fun _ o' => o'.data = .cell (some v)) hm (fun ⟨vs, _, _, e, _⟩ => by rw [hd] at e; cases e)
    (fun s Q' E' at_ q => wpAny_storeName_cell hk hx hc ⟨o, at_ _ _ (.inr hm), hd⟩ fun h' ⟨o', ho', hd'⟩ sb => q () h' o' s.toks sb ho' hd') (fun _ o' N' r1 r2 r3 => h o' N' r1 r2 r3)
end
end Mine

end

section
open PySem PySem.W PyProof.Rows
namespace Mine
noncomputable def innSt (i j : Nat) : Stmt := (bodyOf i).getD j (.Pass default)
noncomputable def innParams (i j : Nat) : Arguments := match innSt i j with | .FunctionDef _ a _ _ _ _ _ _ _ _ => a | _ => default
noncomputable def innBody (i j : Nat) : List Stmt := match innSt i j with | .FunctionDef _ _ b _ _ _ _ _ _ _ => b | _ => []
noncomputable def innScope (i j : Nat) : Scope := match innSt i j with | .FunctionDef _ _ _ _ _ _ s _ _ _ => s | _ => default
section
variable {α β : Type} {prog : Program} {w : World} {g0 : Cx} {A : Around} {E : Value → Shared → Prop} {h₀ : Heap} {L : Addr} {m : Loc} {N : Led} {env : Env} {mg mb : Loc}
variable {cn : Str} {cs : Scope} {a0 : Addr} {ccd : Value} {cl : List (Str × Addr)}
theorem defCore {M : Model} {s : Shared} {name qual : Str} {params : Arguments} {body : List Stmt} {scope : Scope} {c P : Addr} {kk : Option Addr} {pos : Pos} {firstLine : Nat} {clos : List (Str × Addr)} {env : Env}
    (hT : isTab P) (C : CodeHd s.heap c P) (hge : env.globals = mainGlobals) (hcode : env.code = .ref c) (G : Gd mg mb s.heap) (ta : TabAt s.heap P pos.line pos.col qual kk) (hcl : closureFor scope env = pure clos) :
    wpAny M A (makeFunction name qual params (.stmts body) scope env [] [] [] pos firstLine) (fun v s' => ∃ f c' doc pm ctv h' tk, v = .ref f ∧ s' = { s with heap := h', toks := tk } ∧ s.heap.objs.size ≤ f ∧
      h'.get? f = some (fnMade name qual params body scope clos doc pm c' ctv) ∧ Heap.ExtBut P s.heap h' ∧ TabAt h' P pos.line pos.col qual (some c') ∧ (kk = none ∨ kk = some c') ∧ s.heap.objs.size ≤ h'.objs.size) E s := by
  refine exE2 G.bmain fun bm ob h_0 => anE8 h_0 fun a b c1 d e f1 f2 f3 => ?_
  clear h_0
  have hbP : bm ≠ P := fun q => d (q ▸ hT)
  refine exE1 ta fun ps h_0 => anE2 h_0 fun hP r => ?_
  clear h_0 ta
  have hgP : mainGlobals ≠ P := by
    rcases hT with rfl | rfl
    · show (3 : Nat) ≠ 47; decide
    · show (3 : Nat) ≠ 54; decide
  rcases r with ⟨rfl, rfl⟩ | ⟨c', rfl, hcr, hk⟩
  · refine makeFunction_K (mg := mg) (ps := #[]) hcl hge G.g hcode C hP trivial rfl hgP ⟨bm, ob, a, b, c1, hbP, e, f1, f2, f3⟩ fun c' ctv doc h' tk hx hge hlt hrec htb => ?_
    refine exI7 _ c' doc _ ctv _ tk ⟨rfl, rfl, by omega, Heap.get?_push_size _ rfl, fun b o hb e => Heap.get?_push_of_some _ (hx b o hb e), ⟨_, Heap.get?_push_of_some _ htb, .inr ⟨c', rfl, ?_, .inr rfl⟩⟩, .inl rfl, by rw [Heap.size_push]; omega⟩
    refine exE4 hrec fun c₂ oc vs t h_0 => anE3 h_0 fun e2 hoc hr => ?_
    clear h_0 hrec
    exact exI4 c₂ oc vs t ⟨e2, Heap.get?_push_of_some _ hoc, hr⟩
  · refine makeFunction_hit (mg := mg) (cv := .ref c') hcl hge G.g hcode C hP ?_ ?_ ⟨bm, ob, a, b, c1, hbP, e, f1, f2, f3⟩ fun ctv doc h' tk hk' hsz => ?_
    · exact trivial
    · simp [codeAmong, rawInt]
    · refine exI7 _ c' doc _ ctv _ tk ⟨rfl, rfl, hsz, Heap.get?_push_size _ rfl, fun b o hb e => Heap.get?_push_of_some _ (hk' b o e), ⟨_, Heap.get?_push_of_some _ (hk' _ _ hP), .inr ⟨c', rfl, ?_, .inr rfl⟩⟩, hk, by rw [Heap.size_push]; omega⟩
      refine exE4 hcr fun c₂ oc vs t h_0 => anE3 h_0 fun e2 hoc hr => ?_
      clear h_0 hcr
      exact exI4 c₂ oc vs t ⟨e2, Heap.get?_push_of_some _ (hk' _ _ hoc), hr⟩
noncomputable def Cx.know (g : Cx) (P c' : Addr) : Cx := { g with k1 := if P = 47 then some c' else g.k1, k2 := if P = 47 then g.k2 else some c' }
noncomputable def Cx.known (g : Cx) (P : Addr) : Option Addr := if P = 47 then g.k1 else g.k2
theorem know_gens {g : Cx} {P c' : Addr} : (g.know P c').gens = g.gens := by unfold Cx.know; split <;> rfl
theorem weakT {k k' : Option Addr} {h : Heap} {P : Addr} {l c : Nat} {q : Str} (x : TabAt h P l c q k) (hk : k' = none ∨ k' = k) : TabAt h P l c q k' := by
  obtain ⟨ps, e, r⟩ := x
  refine ⟨ps, e, ?_⟩
  rcases hk with rfl | rfl
  · rcases r with ⟨a, b⟩ | ⟨c2, a, b, d⟩
    · exact .inl ⟨a, rfl⟩
    · exact .inr ⟨c2, a, b, .inl rfl⟩
  · exact r
theorem pp_ta {g0 : Cx} {h : Heap} {P : Addr} {line col : Nat} {qual : Str} {pos : Pos} (hPP : ((P = 47 ∧ line = 33 ∧ col = 4 ∧ qual = Str.ofString "_int2digits.<locals>.inner") ∨ (P = 54 ∧ line = 48 ∧ col = 4 ∧ qual = Str.ofString "_digits2int.<locals>.inner"))) (hl : pos.line = line) (hcol : pos.col = col) (T : TabOK g0 h) : TabAt h P pos.line pos.col qual (g0.known P) := by
  rw [hl, hcol]
  rcases hPP with ⟨rfl, rfl, rfl, rfl⟩ | ⟨rfl, rfl, rfl, rfl⟩
  · exact T.1
  · exact T.2
theorem pp_tab1 {g0 : Cx} {h h' : Heap} {P c' : Addr} {line col : Nat} {qual : Str} {pos : Pos} (hPP : ((P = 47 ∧ line = 33 ∧ col = 4 ∧ qual = Str.ofString "_int2digits.<locals>.inner") ∨ (P = 54 ∧ line = 48 ∧ col = 4 ∧ qual = Str.ofString "_digits2int.<locals>.inner"))) (hl : pos.line = line) (hcol : pos.col = col) (T : TabOK g0 h) (ta' : TabAt h' P pos.line pos.col qual (some c')) (hx' : Heap.ExtBut P h h') (kc : ∀ b o, h.get? b = some o → isCode o → h'.get? b = some o) : TabOK (g0.know P c') h' := by
  rw [hl, hcol] at ta'
  rcases hPP with ⟨rfl, rfl, rfl, rfl⟩ | ⟨rfl, rfl, rfl, rfl⟩
  · exact ⟨ta', TabAt.keeps (k := fun o e => hx' _ _ (by show (54 : Nat) ≠ 47; decide) e) (kc := kc) T.2⟩
  · exact ⟨TabAt.keeps (k := fun o e => hx' _ _ (by show (47 : Nat) ≠ 54; decide) e) (kc := kc) T.1, ta'⟩
theorem pp_fin {g0 : Cx} {h : Heap} {P c' : Addr} {line col : Nat} {qual : Str} (hPP : ((P = 47 ∧ line = 33 ∧ col = 4 ∧ qual = Str.ofString "_int2digits.<locals>.inner") ∨ (P = 54 ∧ line = 48 ∧ col = 4 ∧ qual = Str.ofString "_digits2int.<locals>.inner"))) (T : TabOK (g0.know P c') h) (hkk : g0.known P = none ∨ g0.known P = some c') : TabOK g0 h := by
  rcases hPP with ⟨rfl, rfl, rfl, rfl⟩ | ⟨rfl, rfl, rfl, rfl⟩
  · exact ⟨weakT T.1 hkk, T.2⟩
  · exact ⟨T.1, weakT T.2 hkk⟩
theorem defCoreK {M : Model} {s : Shared} {name qual : Str} {params : Arguments} {body : List Stmt} {scope : Scope} {c P : Addr} {kk : Option Addr} {pos : Pos} {firstLine : Nat} {clos : List (Str × Addr)} {env : Env} {R : Value → Shared → Prop}
    (hT : isTab P) (C : CodeHd s.heap c P) (hge : env.globals = mainGlobals) (hcode : env.code = .ref c) (G : Gd mg mb s.heap) (ta : TabAt s.heap P pos.line pos.col qual kk) (hcl : closureFor scope env = pure clos)
    (k : ∀ f c' doc pm ctv h' tk, s.toks ≤ tk → s.heap.objs.size ≤ f → h'.get? f = some (fnMade name qual params body scope clos doc pm c' ctv) → Heap.ExtBut P s.heap h' → TabAt h' P pos.line pos.col qual (some c') → (kk = none ∨ kk = some c') → s.heap.objs.size ≤ h'.objs.size → R (.ref f) { s with heap := h', toks := tk }) :
    wpAny M A (makeFunction name qual params (.stmts body) scope env [] [] [] pos firstLine) R E s :=
  wpAny_mono (wpAny_toks_of (n := s.toks) (Nat.le_refl _) (defCore hT C hge hcode G ta hcl)) (fun v s' x => anE2 x fun ht x => exE7 x fun f c' doc pm ctv h' tk x => anE8 x fun e1 e2 a1 a2 a3 a4 a5 a6 => by subst e1 e2; exact k f c' doc pm ctv h' tk ht a1 a2 a3 a4 a5 a6) fun _ _ e => e.2
theorem ex_def {P c : Addr} {line col : Nat} {x qual : Str} {params : Arguments} {body : List Stmt} {scope : Scope} {pos : Pos} {clos : List (Str × Addr)} {rest : List Stmt} {cc : Addr} {oc : Obj} {v₀ : Option Value} {Q : Flow → Loc → Led → Prop}
    (hPP : (P = 47 ∧ line = 33 ∧ col = 4 ∧ qual = Str.ofString "_int2digits.<locals>.inner") ∨ (P = 54 ∧ line = 48 ∧ col = 4 ∧ qual = Str.ofString "_digits2int.<locals>.inner"))
    (hl : pos.line = line) (hcol : pos.col = col) (G : Gd mg mb h₀) (C : CodeHd h₀ c P)
    (hcl : closureFor scope (envX cn cs L a0 (.ref c) cl) = pure clos) (hq : qualnameIn (envX cn cs L a0 (.ref c) cl) x x = qual)
    (hd0 : params.defaults = []) (hk0 : params.kw_defaults = []) (ha : annTrees params none (envX cn cs L a0 (.ref c) cl) = [])
    (hk : cs.kind = .function) (hx : cs.names.lookup x = some .cell) (hc : cl.lookup x = some cc) (hm : (cc, oc) ∈ N) (hd : oc.data = .cell v₀)
    (h : ∀ f c' doc pm ctv o' N', o'.data = .cell (some (.ref f)) → Holds N N' cc oc → (cc, o') ∈ N' → (f, fnMade x qual params body scope clos doc pm c' ctv) ∈ N' →
      WB (g0.know P c') A E h₀ L m N' (execs rest (envX cn cs L a0 (.ref c) cl)) Q) :
    WB g0 A E h₀ L m N (execs (.FunctionDef x params body [] none [] scope none x pos :: rest) (envX cn cs L a0 (.ref c) cl)) Q := by
  have hT : isTab P := hPP.elim (fun h => .inl h.1) fun h => .inr h.1
  rw [execs_cons]
  refine ⟨fun s I => wpAny_bind ?_⟩
  refine nestDef_K hd0 hk0 ha ?_
  have Gs : Gd mg mb s.heap := G.keeps fun b o e _ => I.fr.keep b o e
  have ta : TabAt s.heap P pos.line pos.col qual (g0.known P) := pp_ta hPP hl hcol I.tab
  refine (Eq.symm hq) ▸ ?_
  refine defCoreK (env := envX cn cs L a0 (.ref c) cl) (firstLine := pos.line) hT (C.keeps I.fr.keep) rfl rfl Gs ta hcl fun f c' doc pm ctv h' tk ht hge hgf hx' ta' hkk hsz => ?_
  have nT : ∀ b, isTab b → b ≠ P → (h'.get? b = s.heap.get? b ∨ ∀ o, s.heap.get? b = some o → h'.get? b = some o) := fun b _ hb => .inr fun o e => hx' b o hb e
  have kc : ∀ b o, s.heap.get? b = some o → isCode o → h'.get? b = some o := fun b o e hc => hx' b o (fun q => by
    refine exE1 ta fun ps h_0 => anE2 h_0 fun e2 r => ?_
    clear h_0 ta
    subst q; rw [e2] at e; cases e
    refine exE3 hc fun vs q t h_0 => anE2 h_0 fun e3 e4 => ?_
    clear h_0 hc
    cases e3
    rcases r with ⟨rfl, _⟩ | ⟨c2, rfl, _⟩
    · cases e4
    · cases e4) e
  have hLP : L ≠ P := fun q => by
    have h1 := isTab_le hT
    have h2 := Nat.lt_of_lt_of_le I.t54.1 I.fr.above
    rw [q] at h2
    exact Nat.lt_irrefl _ (Nat.lt_of_lt_of_le h2 h1)
  have g₀n : ∀ b o, h₀.get? b = some o → h'.get? b = some o := fun b o e => hx' b o (fun q => by rw [q, I.t54.2 P hT] at e; cases e) (I.fr.keep b o e)
  have tab1 : TabOK (g0.know P c') h' := pp_tab1 hPP hl hcol I.tab ta' hx' kc
  have I1 : Inv (g0.know P c') h₀ L m ((f, fnMade x qual params body scope clos doc pm c' ctv) :: N) { s with heap := h', toks := tk } := by
    refine ⟨I.gens.trans know_gens.symm, I.os, tab1, ⟨I.fr.ns.extBut hx' hLP, g₀n, I.fr.above⟩, fun p hp => ?_, List.nodup_cons.mpr ⟨fun hm => ?_, I.nd⟩, I.t54, Nat.le_trans I.fl.1 ht, Nat.lt_of_lt_of_le I.fl.2 ht⟩
    · rcases List.mem_cons.mp hp with rfl | hp
      · have hL := Nat.lt_of_lt_of_le I.fr.ns.lt hge
        have hh := Nat.le_trans I.fr.above (Nat.le_of_lt hL)
        exact ⟨hgf, Nat.ne_of_gt hL, Heap.get?_none_of_le hh, fun hb => absurd (isTab_le hb) (Nat.not_le.mpr (Nat.lt_of_lt_of_le I.t54.1 hh))⟩
      · have := I.led p hp
        exact ⟨hx' _ _ (fun q => this.2.2.2 (q ▸ hT)) this.1, this.2⟩
    · refine exE1 (List.mem_map.mp hm) fun q h_0 => anE2 h_0 fun hq e => ?_
      clear h_0
      have h1 := Heap.lt_size (I.led q hq).1
      rw [show q.1 = f from e] at h1
      exact absurd h1 (Nat.not_lt.mpr hge)
  have S1 : Step L N ((f, fnMade x qual params body scope clos doc pm c' ctv) :: N) s.heap h' := by
    refine ⟨fun b o e _ _ n => hx' b o (fun q => n (q ▸ hT)) e, fun p hp => ?_, hsz⟩
    rcases List.mem_cons.mp hp with rfl | hp
    · exact .inr hge
    · exact .inl (List.mem_map_of_mem hp)
  have W : WB (g0.know P c') A E h₀ L m ((f, fnMade x qual params body scope clos doc pm c' ctv) :: N) (storeName (envX cn cs L a0 (.ref c) cl) x (.ref f)) fun _ m' N' => WB (g0.know P c') A E h₀ L m' N' (execs rest (envX cn cs L a0 (.ref c) cl)) Q := by
    refine WB.cell hk hx hc (.tail _ hm) hd fun o' N' r1 r2 r3 => h f c' doc pm ctv o' N' r1 (fun p hp => r2 p (.tail _ hp)) r3 ?_
    rcases r2 _ (.head _) with e | e
    · refine anE2 (Prod.mk.inj e) fun e1 e2 => ?_
      rw [← e2] at hd
      cases hd
    · exact e
  refine wpAny_mono (W.run _ I1) (fun _ s2 ⟨m2, N2, I2, S2, q⟩ => ?_) fun _ _ e => e
  refine wpAny_mono (q.run _ I2) (fun fl s3 ⟨m3, N3, I3, S3, r⟩ => ⟨m3, N3, ⟨I3.gens.trans know_gens, I3.os, ?_, I3.fr, I3.led, I3.nd, I3.t54, I3.fl⟩, S1.trans (S2.trans S3), r⟩) fun _ _ e => e
  exact pp_fin hPP I3.tab hkk
end
end Mine

end

section
open PySem PySem.W PyProof.Rows
namespace Mine
open Builtin.Int (intBits)
noncomputable def LO (o : Obj) (vs : List Value) : Prop := o.cls = .type "list" ∧ ∃ n, o.data = .seq vs.toArray n
noncomputable def LP (o : Obj) (vs : List Value) : Prop := o.cls = .type "list" ∧ o.dict = none ∧ ∃ n, o.data = .seq vs.toArray n
theorem LP.lo {o : Obj} {vs : List Value} (x : LP o vs) : LO o vs := ⟨x.1, x.2.2⟩
theorem LP.of (vs : List Value) (n : Nat) : LP (lstObj vs n) vs := ⟨rfl, rfl, n, rfl⟩
theorem LO.isList {o : Obj} {vs : List Value} (x : LO o vs) {h : Heap} {a : Addr} (e : h.get? a = some o) : h.IsList a vs.toArray := ⟨o, e, x.1, x.2⟩
theorem LO.notCode {o : Obj} {vs : List Value} (x : LO o vs) : ¬ isCode o := fun ⟨_, _, _, e, _⟩ => by obtain ⟨_, n, d⟩ := x; rw [d] at e; cases e
theorem LO.isLst {o : Obj} {vs : List Value} (x : LO o vs) : isLst o := ⟨x.1, _, x.2⟩
theorem LO.ofList {h : Heap} {a : Addr} {vs : List Value} (x : h.IsList a vs.toArray) : ∃ o, h.get? a = some o ∧ LO o vs := let ⟨o, e, c, n, d⟩ := x; ⟨o, e, c, n, d⟩
theorem LO.ofList' {h : Heap} {a : Addr} {arr : Array Value} (x : h.IsList a arr) : ∃ o, h.get? a = some o ∧ LO o arr.toList := let ⟨o, e, c, n, d⟩ := x; ⟨o, e, c, n, by simpa using d⟩
section
variable {α β : Type} {prog : Program} {w : World} {g0 : Cx} {A : Around} {E : Value → Shared → Prop} {h₀ : Heap} {L : Addr} {m : Loc} {N : Led} {env : Env} {mg mb : Loc}
theorem l_mul1 {l : Addr} {v : Value} {x : Int} {u : Tok} {Q : Value → Loc → Led → Prop} (hl : At h₀ N l (lstObj [v])) (h0 : 0 ≤ x) (hx : x ≤ 2 ^ 24)
    (h : ∀ a, Fresh h₀ L N a → Q (.ref a) m ((a, lstObj (List.replicate x.toNat v)) :: N)) : WB g0 A E h₀ L m N (binaryOp .Mult (.ref l) (.int x u)) Q := by
  refine WB.alloc (o := lstObj (List.replicate x.toNat v)) rfl (fun s Q' E' at_ q => ?_) h
  have hg := at_ _ _ hl
  refine wpAny_binaryOp_repeat_ref (T := "list") (U := "int") (by decide) ⟨_, hg, rfl⟩ (fun s' => typeIs_int s' x u) noFill_list_mul F.fills_int_mul F.slot_int_rmul repeat_list F.slot_int_index.lookup
    (call_meets F.slot_int_rmul (typeIs_int s x u) F.entry_int_rmul (F.args_int_rmul_2 _ _) (int___rmul___int_list x u l _ _)
      ⟨hg, rfl, ⟨_, hg, rfl⟩, call_meets F.slot_list_mul ⟨_, hg, rfl⟩ F.entry_list_mul (F.args_list_mul_2 _ _)
        (AutoListH.list___mul___list_int_3 l _ _ x u (by simp [Builtin.List.listFitsIndex]; omega) (by simp; omega) (by simp [Builtin.List.listTooLong, sizeLine]; omega))
        ⟨hg, ?_⟩⟩)
  have e : (List.foldl (fun x1 x2 => x1 ++ x2) #[] (List.replicate (if ([v].toArray).isEmpty = true then 0 else x.toNat) [v].toArray)) = (List.replicate x.toNat v).toArray := by
    rw [listMul_foldl_if]
    congr 1
    induction x.toNat with
    | zero => rfl
    | succ n ih => rw [List.replicate_succ, List.flatten_cons, ih, List.replicate_succ]; rfl
  have q' := q s.toks
  rw [show (lstObj (List.replicate x.toNat v)) = ({ cls := .type "list", data := .seq (List.foldl (fun x1 x2 => x1 ++ x2) #[] (List.replicate (if ([v].toArray).isEmpty = true then 0 else x.toNat) [v].toArray)) 0 } : Obj) from by rw [e]] at q'
  exact q'
noncomputable def SubP (h₀ : Heap) (o i : Value) (N : Led) (K : Value → Prop) : Prop := ∃ l lo vs k t x, o = .ref l ∧ At h₀ N l lo ∧ LO lo vs ∧ i = .int k t ∧ 0 ≤ k ∧ k < 2 ^ 63 ∧ vs[k.toNat]? = some x ∧ K x
theorem subI (l : Addr) (lo : Obj) (vs : List Value) (k : Int) (t : Tok) (x : Value) {h₀ : Heap} {N : Led} {K : Value → Prop} (a : At h₀ N l lo) (b : LO lo vs) (c : 0 ≤ k) (d : k < 2 ^ 63) (e : vs[k.toNat]? = some x) (q : K x) : SubP h₀ (.ref l) (.int k t) N K := ⟨l, lo, vs, k, t, x, rfl, a, b, rfl, c, d, e, q⟩
theorem e_subL {value slice : Expr} {pos : Pos} {Q : Value → Loc → Led → Prop}
    (h : WB g0 A E h₀ L m N (eval value env) fun o m' N' => WB g0 A E h₀ L m' N' (eval slice env) fun i m'' N'' => SubP h₀ o i N'' fun x => Q x m'' N'')
    (hs : ∀ o i, subscripted slice false o i = operate [o, i] (getItem o i) := by intro _ _; with_unfolding_all rfl) :
    WB g0 A E h₀ L m N (eval (.Subscript value slice pos) env) Q := by
  rw [eval_Subscript]
  refine WB.bind (h.mono fun o m' N' q => WB.bind (WB.holding (q.mono fun i m'' N'' r => WB.at_ ?_)))
  obtain ⟨l, lo, vs, k, t, x, rfl, hl, ho, rfl, h0, hf, hx, q⟩ := r
  refine ⟨fun s I => ?_⟩
  have hi := ho.isList (I.at hl)
  show wpAny _ _ (subscriptTail value slice (.ref l) (.int k t)) _ _ s
  unfold subscriptTail
  refine wpAny_bind ?_
  rw [getitemInPython_of_ne hi.typeIs.not_modules]
  refine wpAny_bind (wpAny_specialOf hi.typeIs slot_list_getitem.lookup ?_)
  have fin : wpAny (model g0.prog g0.w) A (subscripted slice false (.ref l) (.int k t)) (fun r s₃ => wpAny (model g0.prog g0.w) A (letTemporaryGo value (.ref l) r >>= fun _ => pure r) (fun a s' => ∃ m' N', Inv g0 h₀ L m' N' s' ∧ Step L N'' N' s.heap s'.heap ∧ Q a m' N') E s₃) E s := by
    rw [hs]
    exact wpAny_operating (wpAny_getItem_list hi h0 hf (by simpa using hx) (wpAny_bind (wpAny_letTemporaryGo (wpAny_pure ⟨m'', N'', I, .refl .., q⟩))))
  first
    | exact wpAny_pure (wpAny_bind fin)
    | exact wpAny_bind (wpAny_pure (wpAny_bind fin))
    | exact wpAny_bind fin
theorem set_list {l : Addr} {lo : Obj} {vs : List Value} {k : Int} {t : Tok} {v : Value} {Q : Unit → Loc → Led → Prop} (hl : (l, lo) ∈ N) (ho : LO lo vs) (h0 : 0 ≤ k) (hfit : k < 2 ^ 63) (hn : k < vs.length)
    (h : ∀ o' N', LO o' (vs.set k.toNat v) → Holds N N' l lo → (l, o') ∈ N' → Q () m N') : WB g0 A E h₀ L m N (setItem (.ref l) (.int k t) v) Q :=
  WB.change (R := fun _ o' => LO o' (vs.set k.toNat v)) hl ho.notCode
    (fun s Q' E' at_ q => wpAny_setItem_list (ho.isList (at_ _ _ (.inr hl))) h0 hfit (by simpa using hn) fun h' hl' sb => by
      obtain ⟨o', e, r⟩ := LO.ofList' hl'
      exact q () h' o' s.toks sb e (by simpa using r)) (fun _ o' N' r1 r2 r3 => h o' N' r1 r2 r3)
theorem ex_setL {o i : Expr} {pos' pos : Pos} {value : Expr} {rest : List Stmt} {Q : Flow → Loc → Led → Prop}
    (h : WB g0 A E h₀ L m N (eval value env) fun v m1 N1 => WB g0 A E h₀ L m1 N1 (eval o env) fun ov m2 N2 => WB g0 A E h₀ L m2 N2 (eval i env) fun iv m3 N3 =>
      WB g0 A E h₀ L m3 N3 (setItem ov iv v) fun _ m4 N4 => WB g0 A E h₀ L m4 N4 (execs rest env) Q)
    (hs : swapsWith value (some (.Subscript o i pos')) pos.line env = pure false := by rfl) :
    WB g0 A E h₀ L m N (execs (.Assign [.Subscript o i pos'] value pos :: rest) env) Q := by
  refine ex_cons ?_
  rw [exec_Assign_Subscript _ _ _ _ _ hs]
  refine WB.at_ (WB.bind (h.mono fun v m1 N1 q => WB.bind ?_))
  rw [assign_Subscript]
  refine WB.bind (WB.holding (q.mono fun ov m2 N2 q => WB.bind (WB.holding (q.mono fun iv m3 N3 q => WB.at_ (WB.bind (WB.holding (q.mono fun _ m4 N4 q => ?_)))))))
  exact ⟨fun s I => wpAny_release ⟨m4, N4, I, .refl .., WB.pure q⟩⟩
theorem c_lenL {l : Addr} {lo : Obj} {vs : List Value} {Q : Value → Loc → Led → Prop} (hl : At h₀ N l lo) (ho : LO lo vs) (hz : vs.length < 2 ^ 60) (h : ∀ t, Q (.int vs.length t) m N) :
    WB g0 A E h₀ L m N (call (.builtin "len") [.ref l]) Q :=
  WB.tokR (f := fun t => .int vs.length t) (fun s Q' E' at_ q => Calls.call_len_list (ho.isList (at_ _ _ hl)) (by simp; omega) (by simpa using q (s.toks + 1) (s.toks + 1 + 1))) h
theorem ex_expr {e : Expr} {pos : Pos} {rest : List Stmt} {Q : Flow → Loc → Led → Prop}
    (h : WB g0 A E h₀ L m N (eval e env) fun _ m' N' => WB g0 A E h₀ L m' N' (execs rest env) Q)
    (hi : interactive env = false := by rfl) (hs : swapsWith e none pos.line env = pure false := by rfl) : WB g0 A E h₀ L m N (execs (.Expr e pos :: rest) env) Q := by
  refine ex_cons ?_
  rw [exec_Expr env e pos hi hs]
  exact WB.at_ (WB.bind (h.mono fun v m' N' q => ⟨fun s I => wpAny_dropValue ⟨m', N', I, .refl .., q⟩⟩))
end
end Mine

end

section
open PySem PySem.W PyProof.Rows
namespace Mine
open Builtin.Int (intBits)
noncomputable def intOf : Value → Option Int
  | .int i _ => some i
  | _ => none
noncomputable def Ints (vs : List Value) (xs : List Int) : Prop := vs.map intOf = xs.map some
theorem Ints.nil : Ints [] [] := rfl
theorem Ints.cons {i : Int} {t : Tok} {vs xs} (h : Ints vs xs) : Ints (.int i t :: vs) (i :: xs) := by unfold Ints at *; simp [intOf, h]
theorem Ints.append {vs ws xs ys} (h : Ints vs xs) (h' : Ints ws ys) : Ints (vs ++ ws) (xs ++ ys) := by unfold Ints at *; simp [h, h']
theorem Ints.length {vs xs} (h : Ints vs xs) : vs.length = xs.length := by have := congrArg List.length h; simpa using this
theorem Ints.get {vs xs} (h : Ints vs xs) {i : Nat} {x : Int} (e : xs[i]? = some x) : ∃ t, vs[i]? = some (.int x t) := by
  have h1 := congrArg (fun l => l[i]?) h
  simp only [List.getElem?_map, e, Option.map_some] at h1
  cases hv : vs[i]? with
  | none => rw [hv] at h1; simp at h1
  | some v =>
    rw [hv] at h1
    simp only [Option.map_some, Option.some.injEq] at h1
    cases v <;> simp [intOf] at h1
    subst h1
    exact ⟨_, rfl⟩
theorem Ints.reverse {vs xs} (h : Ints vs xs) : Ints vs.reverse xs.reverse := by unfold Ints at *; rw [List.map_reverse, h, List.map_reverse]
theorem Ints.uncons {vs x xs} (h : Ints vs (x :: xs)) : ∃ t vs', vs = .int x t :: vs' ∧ Ints vs' xs := by
  cases vs with
  | nil => simp [Ints] at h
  | cons v vs =>
    simp only [Ints, List.map_cons, List.cons.injEq] at h
    refine anE2 h fun h1 h2 => ?_
    clear h
    cases v <;> simp [intOf] at h1
    subst h1
    exact exI2 _ _ ⟨rfl, h2⟩
noncomputable def digits (n : Nat) : Int → Nat → List Int
  | _, 0 => []
  | x, k + 1 => x % 2 ^ n :: digits n (x / 2 ^ n) k
noncomputable def undig (n : Nat) : List Int → Int
  | [] => 0
  | x :: xs => x + 2 ^ n * undig n xs
theorem digits_length (n : Nat) : ∀ (k : Nat) (x : Int), (digits n x k).length = k
  | 0, _ => rfl
  | k + 1, x => by rw [digits, List.length_cons, digits_length n k]
theorem mod_mod_pow {x P R : Int} (hP : 0 < P) (hR : 0 < R) : x % (P * R) % P = x % P := Int.emod_emod_of_dvd _ ⟨R, rfl⟩
theorem div_div {x P R : Int} (hP : 0 < P) : x / P / R = x / (P * R) := by
  refine (Eq.symm Int.ediv_ediv) ▸ ?_
  have : ¬ (P < 0 ∧ ¬ R ∣ x / P) := fun h => absurd h.1 (by omega)
  rw [if_neg this]; omega
theorem mod_div_pow {x P R : Int} (hP : 0 < P) (hR : 0 < R) : x % (P * R) / P = x / P % R := by
  have h1 := ediv_mod x (P * R)
  have h2 : x / P / R = x / (P * R) := by rw [div_div hP]
  have h3 := ediv_mod (x / P) R
  have h4 : x % (P * R) = x / P % R * P + x % P := by
    have h5 := ediv_mod x P
    rw [h2] at h3
    rw [h3, Int.add_mul, Int.mul_assoc, Int.mul_comm R P] at h5
    omega
  have := divmod_uniq hP h4 (Int.emod_nonneg _ (Int.ne_of_gt hP)) (Int.emod_lt_of_pos _ hP)
  exact this.1
theorem digits_split (n : Nat) (j : Nat) : ∀ (i : Nat) (x : Int), digits n x (i + j) = digits n (x % 2 ^ (n * i)) i ++ digits n (x / 2 ^ (n * i)) j
  | 0, x => by simp [digits]
  | i + 1, x => by
    have e : n * (i + 1) = n + n * i := by rw [Nat.mul_succ]; omega
    rw [show i + 1 + j = (i + j) + 1 by omega, digits, digits, e, p2add, mod_mod_pow (p2pos _) (p2pos _), mod_div_pow (p2pos _) (p2pos _), digits_split n j i, List.cons_append, div_div (p2pos n)]
theorem undig_digits (n : Nat) : ∀ (k : Nat) (x : Int), 0 ≤ x → x < 2 ^ (n * k) → undig n (digits n x k) = x
  | 0, x, h0, h1 => by rw [Nat.mul_zero] at h1; simp [digits, undig]; have : x < 1 := h1; omega
  | k + 1, x, h0, h1 => by
    have e : n * (k + 1) = n + n * k := by rw [Nat.mul_succ]; omega
    rw [e, p2add] at h1
    rw [digits, undig, undig_digits n k (x / 2 ^ n) (Int.ediv_nonneg h0 (Int.le_of_lt (p2pos n))) (Int.ediv_lt_of_lt_mul (p2pos n) (by rw [Int.mul_comm]; exact h1))]
    have := ediv_mod x (2 ^ n)
    rw [Int.mul_comm]; omega
theorem digits_lt (n : Nat) : ∀ (k : Nat) (x : Int), ∀ d ∈ digits n x k, 0 ≤ d ∧ d < 2 ^ n
  | 0, _, d, h => nomatch h
  | k + 1, x, d, h => by
    rcases List.mem_cons.mp h with rfl | h
    · exact ⟨Int.emod_nonneg _ (Int.ne_of_gt (p2pos n)), Int.emod_lt_of_pos _ (p2pos n)⟩
    · exact digits_lt n k _ d h
theorem undig_append (n : Nat) (ys : List Int) : ∀ xs : List Int, undig n (xs ++ ys) = undig n xs + 2 ^ (n * xs.length) * undig n ys
  | [] => by simp [undig]
  | x :: xs => by
    have e : n * (xs.length + 1) = n + n * xs.length := by rw [Nat.mul_succ]; omega
    rw [List.cons_append, undig, undig_append n ys xs, undig, List.length_cons, e, p2add, Int.mul_add, Int.mul_assoc]; omega
theorem undig_bd (n : Nat) : ∀ xs : List Int, (∀ d ∈ xs, 0 ≤ d ∧ d < 2 ^ n) → 0 ≤ undig n xs ∧ undig n xs < 2 ^ (n * xs.length)
  | [], _ => by simp [undig]
  | x :: xs, h => by
    have h1 := h x (.head _)
    have h2 := undig_bd n xs fun d hd => h d (.tail _ hd)
    have e : n * (xs.length + 1) = n + n * xs.length := by rw [Nat.mul_succ]; omega
    rw [undig, List.length_cons, e, p2add]
    have p := p2pos n
    have h3 : 2 ^ n * (undig n xs + 1) ≤ 2 ^ n * 2 ^ (n * xs.length) := Int.mul_le_mul_of_nonneg_left (by omega) (Int.le_of_lt p)
    have h4 := Int.mul_nonneg (Int.le_of_lt p) h2.1
    rw [Int.mul_add] at h3
    omega
theorem ki1_x : (innScope 5 1).names.lookup (Str.ofString "x") = some .local := by rfl
theorem ki1_L : (innScope 5 1).names.lookup (Str.ofString "L") = some .local := by rfl
theorem ki1_R : (innScope 5 1).names.lookup (Str.ofString "R") = some .local := by rfl
theorem ki1_mid : (innScope 5 1).names.lookup (Str.ofString "mid") = some .local := by rfl
theorem ki1_shift : (innScope 5 1).names.lookup (Str.ofString "shift") = some .local := by rfl
theorem ki1_upper : (innScope 5 1).names.lookup (Str.ofString "upper") = some .local := by rfl
theorem ki1_lower : (innScope 5 1).names.lookup (Str.ofString "lower") = some .local := by rfl
theorem ki1_a_digits : (innScope 5 1).names.lookup (Str.ofString "a_digits") = some .free := by rfl
theorem ki1_inner : (innScope 5 1).names.lookup (Str.ofString "inner") = some .free := by rfl
theorem ki1_n : (innScope 5 1).names.lookup (Str.ofString "n") = some .free := by rfl
theorem ki2_L : (innScope 6 0).names.lookup (Str.ofString "L") = some .local := by rfl
theorem ki2_R : (innScope 6 0).names.lookup (Str.ofString "R") = some .local := by rfl
theorem ki2_mid : (innScope 6 0).names.lookup (Str.ofString "mid") = some .local := by rfl
theorem ki2_shift : (innScope 6 0).names.lookup (Str.ofString "shift") = some .local := by rfl
theorem ki2_digits : (innScope 6 0).names.lookup (Str.ofString "digits") = some .free := by rfl
theorem ki2_inner : (innScope 6 0).names.lookup (Str.ofString "inner") = some .free := by rfl
theorem ki2_n : (innScope 6 0).names.lookup (Str.ofString "n") = some .free := by rfl
theorem kis1 : (innScope 5 1).kind = .function := by rfl
theorem kis2 : (innScope 6 0).kind = .function := by rfl
noncomputable def clos1 (L : Addr) : List (Str × Addr) := [(Str.ofString "n", L + 1), (Str.ofString "inner", L + 3), (Str.ofString "a_digits", L + 2)]
noncomputable def clos2 (L : Addr) : List (Str × Addr) := [(Str.ofString "n", L + 2), (Str.ofString "inner", L + 3), (Str.ofString "digits", L + 1)]
theorem lk1_n (L : Addr) : (clos1 L).lookup (Str.ofString "n") = some (L + 1) := by rfl
theorem lk1_inner (L : Addr) : (clos1 L).lookup (Str.ofString "inner") = some (L + 3) := by rfl
theorem lk1_a_digits (L : Addr) : (clos1 L).lookup (Str.ofString "a_digits") = some (L + 2) := by rfl
theorem lk2_n (L : Addr) : (clos2 L).lookup (Str.ofString "n") = some (L + 2) := by rfl
theorem lk2_inner (L : Addr) : (clos2 L).lookup (Str.ofString "inner") = some (L + 3) := by rfl
theorem lk2_digits (L : Addr) : (clos2 L).lookup (Str.ofString "digits") = some (L + 1) := by rfl
section
variable {prog : Program} {w : World} {g0 : Cx} {mg mb : Loc}
structure Cl1 (h : Addr → Obj → Prop) (L f c' dl : Addr) (n : Nat) : Prop where
  fn : ∃ doc pm ctv, h f (fnMade (Str.ofString "inner") (Str.ofString "_int2digits.<locals>.inner") (innParams 5 1) (innBody 5 1) (innScope 5 1) (clos1 L) doc pm c' ctv)
  cn : ∃ o t, h (L + 1) o ∧ o.data = .cell (some (.int n t))
  ci : ∃ o, h (L + 3) o ∧ o.data = .cell (some (.ref f))
  cd : ∃ o, h (L + 2) o ∧ o.data = .cell (some (.ref dl))
theorem Cl1.mono {h h' : Addr → Obj → Prop} {L f c' dl : Addr} {n : Nat} (x : Cl1 h L f c' dl n) (k : ∀ a o, h a o → (¬ isLst o) → h' a o) : Cl1 h' L f c' dl n := by
  refine via fun ξ κ=>?_
  obtain ⟨⟨doc, pm, ctv, a⟩, ⟨o1, t, b1, b2⟩, ⟨o2, c1, c2⟩, ⟨o3, d1, d2⟩⟩ := x
  refine κ ?_;clear κ ξ
  exact ⟨⟨doc, pm, ctv, k _ _ a (fun ⟨_, _, _, x⟩ => by cases x)⟩, ⟨o1, t, k _ _ b1 (fun ⟨_, _, _, x⟩ => by rw [b2] at x; cases x), b2⟩, ⟨o2, k _ _ c1 (fun ⟨_, _, _, x⟩ => by rw [c2] at x; cases x), c2⟩, ⟨o3, k _ _ d1 (fun ⟨_, _, _, x⟩ => by rw [d2] at x; cases x), d2⟩⟩
noncomputable def In1 (g0 : Cx) (mg mb : Loc) (cL f c' dl : Addr) (n d : Nat) : Prop :=
  ∀ (A : Around) (E : Value → Shared → Prop) (s : Shared) (x : Int) (pre mid post : List Value) (k : Nat) (o : Obj) (t u v : Tok) (Lo Hi : Int), OkAt mg mb g0 s → Room A (d + 1) → Cl1 (fun a o => s.heap.get? a = some o ∧ ¬ isTab a) cL f c' dl n →
    s.heap.get? dl = some o → ¬ isTab dl → LO o (pre ++ mid ++ post) → mid.length = k → k ≤ 2 ^ d → 1 ≤ k → 0 ≤ x → x < 2 ^ (n * k) → n * k ≤ 2 ^ 20 → pre.length + k ≤ 2 ^ 20 → Lo = pre.length → Hi = pre.length + k →
    wpAny (model g0.prog g0.w) A (call (.ref f) [.int x t, .int Lo u, .int Hi v]) (BackM g0 [dl] s.heap fun r new => ∃ o' mid', (dl, o') ∈ new ∧ LO o' (pre ++ mid' ++ post) ∧ Ints mid' (digits n x k)) E s
theorem tab1_code {h : Heap} {c' : Addr} (T : TabOK g0 h) (hk : g0.k1 = some c') : h.CodeRec (.ref c') (Str.ofString "_int2digits.<locals>.inner") := by
  refine exE1 T.1 fun ps h_0 => anE2 h_0 fun e r => ?_
  clear h_0
  rcases r with ⟨_, r⟩ | ⟨c2, _, b, r⟩
  · rw [hk] at r; cases r
  · rcases r with r | r <;> rw [hk] at r
    · cases r
    · cases r; exact b
theorem tab2_code {h : Heap} {c' : Addr} (T : TabOK g0 h) (hk : g0.k2 = some c') : h.CodeRec (.ref c') (Str.ofString "_digits2int.<locals>.inner") := by
  refine exE1 T.2 fun ps h_0 => anE2 h_0 fun e r => ?_
  clear h_0
  rcases r with ⟨_, r⟩ | ⟨c2, _, b, r⟩
  · rw [hk] at r; cases r
  · rcases r with r | r <;> rw [hk] at r
    · cases r
    · cases r; exact b
theorem p20i : (2 : Int) ^ 20 = 1048576 := by decide
theorem p21i : (2 : Int) ^ 21 = 2097152 := by decide
end
namespace hin1_step_c
noncomputable def st_ (g0 : Mine.Cx) (mg mb : Mine.Loc) (cL f c' dl : PySem.Addr) (n : Nat) (A : PySem.Around) (E : PySem.Value → PySem.Shared → Prop) (s : PySem.Shared) (pre post : List PySem.Value) (o : PySem.Obj) (u v : PySem.Tok) (Lo Hi : Int) : Prop := ∀ {d : Nat} {x : Int} {mid : List PySem.Value} {k : Nat} {t : PySem.Tok} (hk : g0.k1 = some c') (ih : ∀ d', d = d' + 1 → In1 g0 mg mb cL f c' dl n d') (O : OkAt mg mb g0 s) (Ro : Room A (d + 1)) (C : Cl1 (fun a o => s.heap.get? a = some o ∧ ¬ isTab a) cL f c' dl n) (hdl : s.heap.get? dl = some o) (hnt : ¬ isTab dl) (ho : LO o (pre ++ mid ++ post)) (hm : mid.length = k) (hd : k ≤ 2 ^ d) (h1 : 1 ≤ k) (hx0 : 0 ≤ x) (hx1 : x < 2 ^ (n * k)) (hnk : n * k ≤ 2 ^ 20) (hpk : pre.length + k ≤ 2 ^ 20) (hLo : Lo = pre.length) (hHi : Hi = pre.length + k), wpAny (model g0.prog g0.w) A (call (.ref f) [.int x t, .int Lo u, .int Hi v]) (BackM g0 [dl] s.heap fun r new => ∃ o' mid', (dl, o') ∈ new ∧ LO o' (pre ++ mid' ++ post) ∧ Ints mid' (digits n x k)) E s
noncomputable abbrev T_ := ((((Mine.Cx × Mine.Loc) × (Mine.Loc × PySem.Addr)) × ((PySem.Addr × PySem.Addr) × (PySem.Addr × (Nat × PySem.Around)))) × ((((PySem.Value → PySem.Shared → Prop) × PySem.Shared) × ((List PySem.Value) × (List PySem.Value))) × ((PySem.Obj × PySem.Tok) × (PySem.Tok × (Int × Int)))))
theorem ne_ : Nonempty T_ := ⟨by repeat' (first | apply Prod.mk | exact default | exact nAr | exact nCx | exact nSh | constructor)⟩
noncomputable def Q_ (p : T_) : Prop := st_ p.1.1.1.1 p.1.1.1.2 p.1.1.2.1 p.1.1.2.2 p.1.2.1.1 p.1.2.1.2 p.1.2.2.1 p.1.2.2.2.1 p.1.2.2.2.2 p.2.1.1.1 p.2.1.1.2 p.2.1.2.1 p.2.1.2.2 p.2.2.1.1 p.2.2.1.2 p.2.2.2.1 p.2.2.2.2.1 p.2.2.2.2.2
noncomputable def w_ : T_ := @Classical.epsilon _ ne_ fun p => ¬ Q_ p
noncomputable def cL := w_.1.1.2.2
noncomputable def f := w_.1.2.1.1
noncomputable def c' := w_.1.2.1.2
noncomputable def dl := w_.1.2.2.1
noncomputable def n := w_.1.2.2.2.1
noncomputable def pre := w_.2.1.2.1
noncomputable def post := w_.2.1.2.2
noncomputable def o := w_.2.2.1.1
noncomputable def u := w_.2.2.1.2
noncomputable def v := w_.2.2.2.1
noncomputable def Lo := w_.2.2.2.2.1
noncomputable def Hi := w_.2.2.2.2.2
theorem main_ : st_ w_.1.1.1.1 w_.1.1.1.2 w_.1.1.2.1 cL f c' dl n w_.1.2.2.2.2 w_.2.1.1.1 w_.2.1.1.2 pre post o u v Lo Hi := by
  intro d x mid k t hk ih O Ro C hdl hnt ho hm hd h1 hx0 hx1 hnk hpk hLo hHi
  refine via fun ξ κ=>?_
  obtain ⟨⟨doc, pm, ctv, hf, hft⟩, -, -, -⟩ := id C
  refine κ ?_;clear κ ξ
  refine enterM (n := d) (M := [(dl, o)]) hf (tab1_code O.tab hk) (fun p hp => ?_) (by simp) O Ro (binds := [(Str.ofString "x", .int x t), (Str.ofString "L", .int Lo u), (Str.ofString "R", .int Hi v)]) (by rfl) ?_ (by rfl) (by rfl) (by rfl) (by rfl) ?_
  · rw [List.mem_singleton.mp hp]; exact ⟨hdl, hnt, ho.isLst⟩
  · intro x hx
    simp only [List.mem_cons, List.not_mem_nil, or_false] at hx
    rcases hx with rfl | rfl | rfl
    · exact ki1_x
    · exact ki1_L
    · exact ki1_R
  intro L h₀ hL G Rd hkeep hnt0
  refine WB.cm entry3 ?_
  show WB _ _ _ _ _ _ _ (execs (_ :: _ :: _ :: _ :: _ :: _ :: _ :: []) _) _
  have C0 : Cl1 (fun a o => h₀.get? a = some o) cL f c' dl n := C.mono fun a ob ha hl => hkeep a ob ha.1 ha.2 (fun hm => by
    have e := List.mem_singleton.mp hm
    rw [e, hdl] at ha
    exact hl (by have := ha.1; cases this; exact ho.isLst))
  refine via fun ξ κ=>?_
  obtain ⟨⟨doc0, pm0, ctv0, hf0⟩, ⟨o1, t1, hn1, hn2⟩, ⟨o2, hi1, hi2⟩, ⟨o3, hd1, hd2⟩⟩ := id C0
  refine κ ?_;clear κ ξ
  refine ex_if ?_
  repeat tb_rel
  by_cases hk1 : k = 1
  · have e1 : (Lo + 1 == Hi) = true := by simp; omega
    refine if_t1 (e1) ?_
    show WB _ _ _ _ _ _ _ (execs (_ :: _ :: _) _) _
    refine ex_setL ?_
    repeat tb_rel
    refine e_free kis1 ki1_a_digits (lk1_a_digits cL) (.inl hd1) hd2 ?_
    repeat tb_rel
    refine set_list (.head _) ho (by omega) (by omega) (by simp; omega) fun o' N' r1 r2 r3 => ?_
    refine ex_ret0 ⟨o', [.int x t], r3, ?_, ?_⟩
    · have : mid.length = 1 := by omega
      refine exE1 (List.length_eq_one_iff.mp this) fun y e_1 => ?_
      subst e_1
      have e2 : Lo.toNat = pre.length := by omega
      rw [e2] at r1
      simpa using r1
    · subst hk1
      rw [digits, digits]
      rw [Nat.mul_one] at hx1
      refine (Eq.symm (Int.emod_eq_of_lt hx0 hx1)) ▸ ?_
      exact Ints.nil.cons
  · have e1 : (Lo + 1 == Hi) = false := by simp; omega
    refine if_f1 (e1) ?_
    show WB _ _ _ _ _ _ _ (execs (_ :: _ :: _ :: _ :: _ :: _ :: []) _) _
    refine via fun ξ κ=>?_
    obtain ⟨d', e_2⟩ : ∃ d', d = d' + 1 := by
      cases d with
      | zero => simp at hd; omega
      | succ d => exact ⟨d, rfl⟩
    refine κ ?_;clear κ ξ
    subst e_2
    have ih' := ih d' rfl
    have hd2 : k ≤ 2 * 2 ^ d' := by rw [Nat.pow_succ] at hd; omega
    refine via fun ξ κ=>?_
    obtain ⟨i, j, hij, hi1', hi2', hj2', hiv⟩ : ∃ i j, k = i + j ∧ 1 ≤ i ∧ i ≤ 2 ^ d' ∧ (1 ≤ j ∧ j ≤ 2 ^ d') ∧ i = k / 2 := ⟨k / 2, k - k / 2, by omega, by omega, by omega, ⟨by omega, by omega⟩, rfl⟩
    refine κ ?_;clear κ ξ
    refine ex_assignL kis1 ki1_mid ?_
    repeat tb_rel
    refine i_shr (by omega) ?_
    intro _
    have em : (Lo + Hi).fdiv (2 ^ ((1 : Int)).toNat) = Lo + i := by
      rw [show ((1 : Int)).toNat = 1 from rfl, shr_eq 1 (by omega)]
      omega
    refine (Eq.symm em) ▸ ?_
    refine ex_assignL kis1 ki1_shift ?_
    repeat tb_rel
    refine e_free kis1 ki1_n (lk1_n cL) (.inl hn1) hn2 ?_
    have hni : n * i ≤ 2 ^ 20 := Nat.le_trans (Nat.mul_le_mul_left n (by omega)) hnk
    have es : (Lo + (i : Int) - Lo) * (n : Int) = ((n * i : Nat) : Int) := by
      rw [Int.natCast_mul, show Lo + (i : Int) - Lo = i by omega, Int.mul_comm]
    have bi : intBits (Lo + (i : Int) - Lo) ≤ 20 := bits_le (by omega) (by rw [show Lo + (i : Int) - Lo = i by omega, p20i]; rw [p20] at hpk; omega)
    have hn20 : n ≤ 2 ^ 20 := Nat.le_trans (Nat.le_mul_of_pos_right n h1) hnk
    have bn : intBits (n : Int) ≤ 21 := bits_le (by omega) (by rw [p21i]; rw [p20] at hn20; omega)
    refine i_mul (mul_ok bi bn (by omega)) ?_
    intro _
    rw [es]
    refine ex_assignL kis1 ki1_upper ?_
    repeat tb_rel
    refine i_shr (by omega) ?_
    intro _
    rw [Int.toNat_natCast, shr_eq _ hx0]
    have hsum : n * k = n * i + n * j := by rw [hij, Nat.mul_add]
    have hu0 : 0 ≤ x / 2 ^ (n * i) := Int.ediv_nonneg hx0 (Int.le_of_lt (p2pos _))
    have hu1 : x / 2 ^ (n * i) < 2 ^ (n * j) := Int.ediv_lt_of_lt_mul (p2pos _) (by rw [Int.mul_comm, ← p2add, ← hsum]; exact hx1)
    have hl0 : 0 ≤ x % 2 ^ (n * i) := Int.emod_nonneg _ (Int.ne_of_gt (p2pos _))
    have hl1 : x % 2 ^ (n * i) < 2 ^ (n * i) := Int.emod_lt_of_pos _ (p2pos _)
    refine ex_assignL kis1 ki1_lower ?_
    repeat tb_rel
    refine i_shl (by omega) (by refine shl_ok (bits_le hu0 hu1) ?_; rw [p20] at hnk; omega) ?_
    intro _
    rw [Int.toNat_natCast]
    repeat tb_rel
    have ex : Builtin.bitXor x (x / 2 ^ (n * i) * 2 ^ (n * i)) = x % 2 ^ (n * i) := by
      have := xor_shift (u := x / 2 ^ (n * i)) (l := x % 2 ^ (n * i)) (k := n * i) hu0 hl0 hl1
      rw [← ediv_mod] at this
      exact this
    refine (Eq.symm ex) ▸ ?_
    refine via fun ξ κ=>?_
    obtain ⟨m1, m2, e_3, hm1, hm2⟩ : ∃ m1 m2, mid = m1 ++ m2 ∧ m1.length = i ∧ m2.length = j := ⟨mid.take i, mid.drop i, (List.take_append_drop i mid).symm, by rw [List.length_take]; omega, by rw [List.length_drop]; omega⟩
    refine κ ?_;clear κ ξ
    subst e_3
    refine ex_expr ?_
    refine e_call_name (e_free kis1 ki1_inner (lk1_inner cL) (.inl hi1) hi2 ?_)
    refine call_f rfl (fo := fnMade (Str.ofString "inner") (Str.ofString "_int2digits.<locals>.inner") (innParams 5 1) (innBody 5 1) (innScope 5 1) (clos1 cL) doc0 pm0 c' ctv0) rfl ?_
    repeat tb_rel
    refine ⟨.inl hf0, ?_⟩
    refine WB.callM G (.head _) ho.notCode (fun s' O' at' nt' => ih' _ _ s' (x % 2 ^ (n * i)) pre m1 (m2 ++ post) i o _ _ _ _ _ O' Rd ?_ (at' _ _ (.inr (.head _))) (nt' _ (.head _)) (by simpa using ho) hm1 hi2' hi1' hl0 hl1 hni (by omega) hLo (by omega)) ?_
    · exact C0.mono fun a ob ha hl => ⟨at' _ _ (.inl ha), fun hb => hnt0 a ob ha hb⟩
    intro v1 new1 N1 e_4 hH hN
    refine exE2 e_4 fun o' mid1 h_0 => anE3 h_0 fun hmem hLO hI => ?_
    clear h_0 e_4
    have hin := hN _ hmem
    refine ex_expr ?_
    refine e_call_name (e_free kis1 ki1_inner (lk1_inner cL) (.inl hi1) hi2 ?_)
    refine call_f rfl (fo := fnMade (Str.ofString "inner") (Str.ofString "_int2digits.<locals>.inner") (innParams 5 1) (innBody 5 1) (innScope 5 1) (clos1 cL) doc0 pm0 c' ctv0) rfl ?_
    repeat tb_rel
    refine ⟨.inl hf0, ?_⟩
    have hl1' : mid1.length = i := by rw [hI.length, digits_length]
    refine WB.callM G hin hLO.notCode (fun s' O' at' nt' => ih' _ _ s' (x / 2 ^ (n * i)) (pre ++ mid1) m2 post j o' _ _ _ _ _ O' Rd ?_ (at' _ _ (.inr hin)) (nt' _ hin) (by simpa using hLO) hm2 hj2'.2 hj2'.1 hu0 hu1 (by omega) (by rw [List.length_append]; omega) (by rw [List.length_append]; omega) (by rw [List.length_append]; omega)) ?_
    · exact C0.mono fun a ob ha hl => ⟨at' _ _ (.inl ha), fun hb => hnt0 a ob ha hb⟩
    intro v2 new2 N2 e_5 hH2 hN2
    refine exE2 e_5 fun o'' mid2 h_0 => anE3 h_0 fun hmem2 hLO2 hI2 => ?_
    clear h_0 e_5
    refine ex_nil ⟨o'', mid1 ++ mid2, hN2 _ hmem2, by simpa using hLO2, ?_⟩
    rw [hij, digits_split]
    exact hI.append hI2
end hin1_step_c
theorem in1_step_c {g0 mg mb cL f c' dl n A E s pre post o u v Lo Hi} : hin1_step_c.st_ g0 mg mb cL f c' dl n A E s pre post o u v Lo Hi := Mine.hk hin1_step_c.ne_ (P := hin1_step_c.Q_) hin1_step_c.main_ ((((g0, mg), (mb, cL)), ((f, c'), (dl, (n, A)))), (((E, s), (pre, post)), ((o, u), (v, (Lo, Hi)))))
section
variable {prog : Program} {w : World} {g0 : Cx} {mg mb : Loc}
theorem in1_step {cL f c' dl : Addr} {n : Nat} (hk : g0.k1 = some c') {d : Nat} (ih : ∀ d', d = d' + 1 → In1 g0 mg mb cL f c' dl n d') : In1 g0 mg mb cL f c' dl n d := fun _ _ _ _ _ _ _ _ _ _ _ _ _ _ O Ro C hdl hnt ho hm hd h1 hx0 hx1 hnk hpk hLo hHi => in1_step_c hk ih O Ro C hdl hnt ho hm hd h1 hx0 hx1 hnk hpk hLo hHi
theorem in1_all {cL f c' dl : Addr} {n : Nat} (hk : g0.k1 = some c') : ∀ d, In1 g0 mg mb cL f c' dl n d
  | 0 => in1_step hk (by omega)
  | d + 1 => in1_step hk fun d' e => by cases e; exact in1_all hk d
theorem bindL_l {kk : Str → Option NameKind} {n : Str} {v : Value} {r : List (Str × Value)} {m : Loc} (h : kk n = some .local) : bindL kk ((n, v) :: r) m = bindL kk r (upd m n v) := by rw [bindL, if_pos h]; rfl
theorem bindL_c {kk : Str → Option NameKind} {n : Str} {v : Value} {r : List (Str × Value)} {m : Loc} (h : kk n = some .cell) : bindL kk ((n, v) :: r) m = bindL kk r m := by rw [bindL, if_neg (by rw [h]; decide)]
theorem bindC_l {kk : Str → Option NameKind} {n : Str} {v : Value} {r : List (Str × Value)} {m : Loc} (h : kk n = some .local) : bindC kk ((n, v) :: r) m = bindC kk r m := by rw [bindC, if_pos h]
theorem bindC_c {kk : Str → Option NameKind} {n : Str} {v : Value} {r : List (Str × Value)} {m : Loc} (h : kk n = some .cell) : bindC kk ((n, v) :: r) m = bindC kk r (upd m n v) := by rw [bindC, if_neg (by rw [h]; decide)]; rfl
theorem p18 : (2 : Nat) ^ 18 = 262144 := by decide
theorem know_k1 {g : Cx} {c' : Addr} : (g.know 47 c').k1 = some c' := rfl
theorem know_k2 {g : Cx} {c' : Addr} : (g.know 54 c').k2 = some c' := rfl
end
namespace hint2digits
noncomputable def st_ (g0 : Mine.Cx) (mg mb : Mine.Loc) (A : PySem.Around) (E : PySem.Value → PySem.Shared → Prop) (s : PySem.Shared) (a : Int) (n : Nat) (t u : PySem.Tok) : Prop := ∀ (O : OkAt mg mb g0 s) (Ro : Room A 20) (ha : 0 ≤ a) (hn : 1 ≤ n) (hb : intBits a ≤ 2 ^ 16) (hn2 : n ≤ 2 ^ 16), wpAny (model g0.prog g0.w) A (call (.ref 52) [.int a t, .int n u]) (Back g0 s.heap fun v new => ∃ dl o vs, v = .ref dl ∧ (dl, o) ∈ new ∧ LO o vs ∧ Ints vs (digits n a ((intBits a + n - 1) / n))) E s
noncomputable abbrev T_ := (((Mine.Cx × Mine.Loc) × (Mine.Loc × (PySem.Around × (PySem.Value → PySem.Shared → Prop)))) × ((PySem.Shared × Int) × (Nat × (PySem.Tok × PySem.Tok))))
theorem ne_ : Nonempty T_ := ⟨by repeat' (first | apply Prod.mk | exact default | exact nAr | exact nCx | exact nSh | constructor)⟩
noncomputable def Q_ (p : T_) : Prop := st_ p.1.1.1 p.1.1.2 p.1.2.1 p.1.2.2.1 p.1.2.2.2 p.2.1.1 p.2.1.2 p.2.2.1 p.2.2.2.1 p.2.2.2.2
noncomputable def w_ : T_ := @Classical.epsilon _ ne_ fun p => ¬ Q_ p
noncomputable def a := w_.2.1.2
noncomputable def n := w_.2.2.1
noncomputable def t := w_.2.2.2.1
noncomputable def u := w_.2.2.2.2
theorem main_ : st_ w_.1.1.1 w_.1.1.2 w_.1.2.1 w_.1.2.2.1 w_.1.2.2.2 w_.2.1.1 a n t u := by
  intro O Ro ha hn hb hn2
  refine enterC (name := "_int2digits") (f := 51) (i := 5) (n := 19) (binds := [(Str.ofString "a", .int a t), (Str.ofString "n", .int n u)]) (by decide) O Ro (fun pm => by rfl) ?_ (by decide) (by rfl) (by rfl) (by rfl) ?_
  · intro n0 x hx
    simp only [List.mem_cons, List.not_mem_nil, or_false] at hx
    rcases hx with rfl | rfl
    · exact .inl k__int2digits_a
    · exact .inr ⟨k__int2digits_n, by rfl⟩
  intro L cells hL G Rd hC
  have hC' : CellsAre (bindC (envX (Str.ofString "_int2digits") (scopeOf 5) L 52 (.ref 51) (cellsFrom (L + 1) (scopeOf 5).names [])).kindOf [(Str.ofString "a", .int a t), (Str.ofString "n", .int n u)] fun _ => none) [(Str.ofString "inner", L + 3), (Str.ofString "a_digits", L + 2), (Str.ofString "n", L + 1)] cells := hC
  rw [bindC_l (show _ from k__int2digits_a), bindC_c (show _ from k__int2digits_n), bindC] at hC'
  rw [bindL_l (show _ from k__int2digits_a), bindL_c (show _ from k__int2digits_n), bindL]
  refine exE3 hC'.three fun oi oa on h_0 => anE4 h_0 fun e_6 hoi hoa hon => ?_
  clear h_0
  subst e_6
  have hoi' : oi.data = .cell none := hoi
  have hoa' : oa.data = .cell none := hoa
  have hon' : on.data = .cell (some (.int n u)) := hon
  show WB _ _ _ _ _ _ _ (execs (_ :: _ :: _ :: _ :: []) (envX (Str.ofString "_int2digits") (scopeOf 5) L 52 (.ref 51) [(Str.ofString "inner", L + 3), (Str.ofString "a_digits", L + 2), (Str.ofString "n", L + 1)])) _
  refine ex_assign ?_
  refine e_bin ?_
  refine e_list rfl ?_
  repeat tb_rel
  refine ⟨by simp, fun l0 fl0 => ?_⟩
  refine e_bin ?_
  refine e_bin ?_
  refine e_bin ?_
  refine e_meth attrBase_name rfl rfl ?_
  refine e_local ks__int2digits k__int2digits_a (by kwd_inv) ?_
  intro pl
  refine g_bitlen ?_
  refine call_b1 rfl ?_
  repeat tb_rel
  refine c_bitlen ?_
  intro _
  refine e_cell ks__int2digits k__int2digits_n rfl (.inr (.tail _ (.tail _ (.tail _ (.head _))))) hon' ?_
  repeat tb_rel
  refine e_cell ks__int2digits k__int2digits_n rfl (.inr (.tail _ (.tail _ (.tail _ (.head _))))) hon' ?_
  have p16 : (2 : Nat) ^ 16 = 65536 := by decide
  have p17i : (2 : Int) ^ 17 = 131072 := by decide
  refine i_fdiv (by omega) (noPy (Nat.le_trans (bits_le (n := 17) (by omega) (by rw [p17i]; rw [p16] at hb hn2; omega)) (by omega))) ?_
  intro _
  rw [fdiv_pos (by omega)]
  have eK : ((intBits a : Int) + (n : Int) - 1) / (n : Int) = (((intBits a + n - 1) / n : Nat) : Int) := by
    rw [Int.natCast_ediv, show ((intBits a + n - 1 : Nat) : Int) = (intBits a : Int) + n - 1 by omega]
  rw [eK]
  generalize hK : (intBits a + n - 1) / n = K
  have hK1 : n * K ≤ intBits a + n - 1 := by rw [← hK]; exact Nat.mul_div_le _ _
  have hK2 : intBits a ≤ n * K := by
    have := Nat.div_add_mod (intBits a + n - 1) n
    have := Nat.mod_lt (intBits a + n - 1) (show n > 0 by omega)
    rw [hK] at *
    omega
  have hKn : K ≤ n * K := Nat.le_mul_of_pos_left K (by omega)
  rw [p16] at hb hn2
  refine l_mul1 (.inr (.head _)) (by omega) (by omega) fun dl fdl => ?_
  rw [Int.toNat_natCast]
  refine WB.cell ks__int2digits k__int2digits_a_digits rfl (.tail _ (.tail _ (.tail _ (.head _)))) hoa' fun oa2 N2 d2 H2 m2 => ?_
  have hoi2 : (L + 3, oi) ∈ N2 := (H2 (L + 3, oi) (.tail _ (.tail _ (.head _)))).resolve_left (by simp)
  have hon2 : (L + 1, on) ∈ N2 := (H2 (L + 1, on) (.tail _ (.tail _ (.tail _ (.tail _ (.head _)))))).resolve_left (by simp)
  have hdl2 : (dl, lstObj (List.replicate K (.int 0 _))) ∈ N2 := (H2 _ (.head _)).resolve_left (fun e => by
    have := (Prod.mk.inj e).2; rw [← this] at hoa'; cases hoa')
  refine ex_def (P := 47) (.inl ⟨rfl, rfl, rfl, rfl⟩) rfl rfl G G.hd1 (clos := clos1 L) (by rfl) (by rfl) (by rfl) (by rfl) (by rfl) ks__int2digits k__int2digits_inner rfl hoi2 hoi' fun f c' doc pm ctv oi3 N3 d3 H3 m3 mf => ?_
  have hoa3 : (L + 2, oa2) ∈ N3 := (H3 _ m2).resolve_left (by simp)
  have hon3 : (L + 1, on) ∈ N3 := (H3 _ hon2).resolve_left (by simp)
  have hdl3 : (dl, lstObj (List.replicate K (.int 0 _))) ∈ N3 := (H3 _ hdl2).resolve_left (fun e => by
    have := (Prod.mk.inj e).2; rw [← this] at hoi'; cases hoi')
  refine ex_if ?_
  refine t_name ?_
  refine e_local ks__int2digits k__int2digits_a (by kwd_inv) ?_
  refine truthy_i ?_
  by_cases h0 : a = 0
  · have e0 : (a != 0) = false := by simp [h0]
    refine if_f1 (e0) ?_
    show WB _ _ _ _ _ _ _ (execs (_ :: []) _) _
    have k0 : K = 0 := by
      have : intBits a = 0 := by rw [h0]; decide
      rw [this] at hK1
      by_cases hc : K = 0
      · exact hc
      · have := Nat.le_mul_of_pos_right n (show 0 < K by omega); omega
    subst k0
    refine ex_ret ?_
    refine e_cell ks__int2digits k__int2digits_a_digits rfl (.inr hoa3) d2 ?_
    exact exI3 dl _ ([]) ⟨rfl, hdl3, (LP.of _ 0).lo, Ints.nil⟩
  · have e0 : (a != 0) = true := by simp [h0]
    refine if_t1 (e0) ?_
    show WB _ _ _ _ _ _ _ (execs (_ :: _ :: []) _) _
    have k1 : 1 ≤ K := by
      refine exE1 (bits_low (show 0 < a by omega)) fun q h_0 => anE2 h_0 fun hq _ => ?_
      clear h_0
      by_cases hc : K = 0
      · rw [hc] at hK2; omega
      · omega
    refine ex_expr ?_
    refine e_call_name (e_cell ks__int2digits k__int2digits_inner rfl (.inr m3) d3 ?_)
    refine call_f rfl (fo := fnMade (Str.ofString "inner") (Str.ofString "_int2digits.<locals>.inner") (innParams 5 1) (innBody 5 1) (innScope 5 1) (clos1 L) doc pm c' ctv) rfl ?_
    refine args_cons ?_
    refine e_local ks__int2digits k__int2digits_a (by kwd_inv) ?_
    repeat tb_rel
    refine e_callb G ks__int2digits k__int2digits_len (id := "len") (by decide) rfl ?_
    refine args_cons ?_
    refine e_cell ks__int2digits k__int2digits_a_digits rfl (.inr hoa3) d2 ?_
    refine args_nil ?_
    refine c_lenL (.inr hdl3) (LP.of _ 0).lo (by rw [List.length_replicate]; omega) fun _ => ?_
    refine args_nil ⟨.inr mf, ?_⟩
    refine (Eq.symm List.length_replicate) ▸ ?_
    refine WB.callM G hdl3 (LP.of _ 0).lo.notCode (fun s' O' at' nt' => in1_all (n := n) (cL := L) (dl := dl) know_k1 18 _ _ s' a [] (List.replicate K _) [] K _ _ _ _ _ _ O' (Rd.le (by omega)) ?_ (at' _ _ (.inr hdl3)) (nt' _ hdl3) (by simpa using (LP.of _ 0).lo) (List.length_replicate) (by rw [p18]; omega) k1 ha ?_ (by rw [p20]; omega) (by rw [p20]; simp; omega) (by simp) (by simp)) ?_
    · exact ⟨⟨doc, pm, ctv, at' _ _ (.inr mf), nt' _ mf⟩, ⟨on, u, ⟨at' _ _ (.inr hon3), nt' _ hon3⟩, hon'⟩, ⟨oi3, ⟨at' _ _ (.inr m3), nt' _ m3⟩, d3⟩, ⟨oa2, ⟨at' _ _ (.inr hoa3), nt' _ hoa3⟩, d2⟩⟩
    · exact lt_of_bits hK2
    intro v new N4 e_7 H4 hN4
    refine exE2 e_7 fun o' mid' h_0 => anE3 h_0 fun hmem hLO hI => ?_
    clear h_0 e_7
    refine ex_ret ?_
    have hoa4 : (L + 2, oa2) ∈ N4 := (H4 _ hoa3).resolve_left (fun e => by
      have := (Prod.mk.inj e).2; rw [this] at d2; cases d2)
    refine e_cell ks__int2digits k__int2digits_a_digits rfl (.inr hoa4) d2 ?_
    exact exI3 dl o' mid' ⟨rfl, hN4 _ hmem, by simpa using hLO, hI⟩
end hint2digits
theorem int2digits {g0 mg mb A E s a n t u} : hint2digits.st_ g0 mg mb A E s a n t u := Mine.hk hint2digits.ne_ (P := hint2digits.Q_) hint2digits.main_ (((g0, mg), (mb, (A, E))), ((s, a), (n, (t, u))))
section
variable {prog : Program} {w : World} {g0 : Cx} {mg mb : Loc}
end
end Mine

end

section
open PySem PySem.W PyProof.Rows
namespace Mine
open Builtin.Int (intBits)
section
variable {prog : Program} {w : World} {g0 : Cx} {mg mb : Loc} {A : Around} {E : Value → Shared → Prop} {h₀ : Heap} {L : Addr} {m : Loc} {N : Led} {env : Env}
theorem OkAt.notTab {s : Shared} (O : OkAt mg mb g0 s) {a : Addr} {o : Obj} (e : s.heap.get? a = some o) (hc : o.cls ≠ .none) : ¬ isTab a := fun hb => by
  refine exE1 (O.tab.get hb) fun ps e2 => ?_
  rw [e2] at e; cases e; exact hc rfl
theorem LO.cls {o : Obj} {vs : List Value} (x : LO o vs) : o.cls ≠ .none := by rw [x.1]; nofun
theorem truthy_l {l : Addr} {lo : Obj} {vs : List Value} {Q : Bool → Loc → Led → Prop} (hl : At h₀ N l lo) (ho : LO lo vs) (hz : vs.length < 2 ^ 60) (h : Q (!vs.isEmpty) m N) :
    WB g0 A E h₀ L m N (truthy (.ref l)) Q :=
  WB.stillR (a := !vs.isEmpty) (fun s Q' E' at_ q => wpAny_truthy_list (ho.isList (at_ _ _ hl)) (by simp; omega) (by simpa using q (s.toks + 1 + 1))) h
theorem Back.ofM {h : Heap} {R : Value → Led → Prop} {v : Value} {s' : Shared} (x : BackM g0 [] h R v s') : Back g0 h R v s' :=
  let ⟨a, b, c, new, X, r⟩ := x
  ⟨a, b, c, new, ⟨fun b o e n => X.keep b o e n (fun hm => nomatch hm), fun p hp => ⟨(X.made p hp).1, (X.made p hp).2.resolve_left (fun hm => nomatch hm)⟩, X.nd, X.size⟩, r⟩
theorem ntab_gt {b : Addr} (h : 54 < b) : ¬ isTab b := fun hb => absurd (isTab_le hb) (Nat.not_le.mpr h)
structure Cl2 (h : Addr → Obj → Prop) (L f c' dl : Addr) (n : Nat) : Prop where
  fn : ∃ doc pm ctv, h f (fnMade (Str.ofString "inner") (Str.ofString "_digits2int.<locals>.inner") (innParams 6 0) (innBody 6 0) (innScope 6 0) (clos2 L) doc pm c' ctv)
  cn : ∃ o t, h (L + 2) o ∧ o.data = .cell (some (.int n t))
  ci : ∃ o, h (L + 3) o ∧ o.data = .cell (some (.ref f))
  cd : ∃ o, h (L + 1) o ∧ o.data = .cell (some (.ref dl))
theorem Cl2.mono {h h' : Addr → Obj → Prop} {L f c' dl : Addr} {n : Nat} (x : Cl2 h L f c' dl n) (k : ∀ a o, h a o → h' a o) : Cl2 h' L f c' dl n := by
  refine via fun ξ κ=>?_
  obtain ⟨⟨doc, pm, ctv, a⟩, ⟨o1, t, b1, b2⟩, ⟨o2, c1, c2⟩, ⟨o3, d1, d2⟩⟩ := x
  refine κ ?_;clear κ ξ
  exact ⟨⟨doc, pm, ctv, k _ _ a⟩, ⟨o1, t, k _ _ b1, b2⟩, ⟨o2, k _ _ c1, c2⟩, ⟨o3, k _ _ d1, d2⟩⟩
noncomputable def In2 (g0 : Cx) (mg mb : Loc) (cL f c' dl : Addr) (n d : Nat) : Prop :=
  ∀ (A : Around) (E : Value → Shared → Prop) (s : Shared) (pre mid post : List Value) (ys : List Int) (o : Obj) (u v : Tok) (Lo Hi : Int), OkAt mg mb g0 s → Room A (d + 1) → Cl2 (fun a o => s.heap.get? a = some o ∧ ¬ isTab a) cL f c' dl n →
    s.heap.get? dl = some o → LO o (pre ++ mid ++ post) → Ints mid ys → ys.length ≤ 2 ^ d → 1 ≤ ys.length → (∀ d ∈ ys, 0 ≤ d ∧ d < 2 ^ n) → n * ys.length ≤ 2 ^ 20 → pre.length + ys.length ≤ 2 ^ 20 → Lo = pre.length → Hi = pre.length + ys.length →
    wpAny (model g0.prog g0.w) A (call (.ref f) [.int Lo u, .int Hi v]) (Back g0 s.heap fun r new => ∃ t, r = .int (undig n ys) t) E s
theorem in2_step {cL f c' dl : Addr} {n : Nat} (hk : g0.k2 = some c') {d : Nat} (ih : ∀ d', d = d' + 1 → In2 g0 mg mb cL f c' dl n d') : In2 g0 mg mb cL f c' dl n d := by
  intro A E s pre mid post ys o u v Lo Hi O Ro C hdl ho hI hd h1 hys hnk hpk hLo hHi
  refine via fun ξ κ=>?_
  obtain ⟨⟨doc, pm, ctv, hf, hft⟩, -, -, -⟩ := id C
  refine κ ?_;clear κ ξ
  refine wpAny_mono (enterM (R := fun r new => ∃ t, r = .int (undig n ys) t) (n := d) (M := []) hf (tab2_code O.tab hk) (fun p hp => nomatch hp) (by simp) O Ro (binds := [(Str.ofString "L", .int Lo u), (Str.ofString "R", .int Hi v)]) (by rfl) ?_ (by rfl) (by rfl) (by rfl) (by rfl) ?_) (fun _ _ x => Back.ofM x) fun _ _ e => e
  · intro x hx
    simp only [List.mem_cons, List.not_mem_nil, or_false] at hx
    rcases hx with rfl | rfl
    · exact ki2_L
    · exact ki2_R
  intro L h₀ hL G Rd hkeep hnt0
  refine WB.cm entry2 ?_
  show WB _ _ _ _ _ _ _ (execs (_ :: _ :: _ :: _ :: []) _) _
  have C0 : Cl2 (fun a o => h₀.get? a = some o) cL f c' dl n := C.mono fun a ob ha => hkeep a ob ha.1 ha.2 (fun hm => nomatch hm)
  have hdl0 : h₀.get? dl = some o := hkeep _ _ hdl (O.notTab hdl ho.cls) (fun hm => nomatch hm)
  refine via fun ξ κ=>?_
  obtain ⟨⟨doc0, pm0, ctv0, hf0⟩, ⟨o1, t1, hn1, hn2⟩, ⟨o2, hi1, hi2⟩, ⟨o3, hd1, hd2⟩⟩ := id C0
  refine κ ?_;clear κ ξ
  have hml := hI.length
  refine ex_if ?_
  repeat tb_rel
  by_cases hk1 : ys.length = 1
  · have e1 : (Lo + 1 == Hi) = true := by simp; omega
    refine if_t1 (e1) ?_
    show WB _ _ _ _ _ _ _ (execs (_ :: _) _) _
    refine exE1 (List.length_eq_one_iff.mp hk1) fun y e_1 => ?_
    subst e_1
    refine exE2 hI.uncons fun ty vs' h_0 => anE2 h_0 fun e_2 hv' => ?_
    clear h_0
    subst e_2
    have : vs' = [] := by have := hv'.length; simpa using this
    subst this
    refine ex_ret ?_
    refine e_subL ?_
    refine e_free kis2 ki2_digits (lk2_digits cL) (.inl hd1) hd2 ?_
    repeat tb_rel
    refine exI5 dl o _ Lo u ⟨.int y ty, rfl, .inl hdl0, ho, rfl, by omega, by omega, ?_, ty, ?_⟩
    · rw [hLo, Int.toNat_natCast]; simp
    · rw [undig, undig, Int.mul_zero, Int.add_zero]
  · have e1 : (Lo + 1 == Hi) = false := by simp; omega
    refine if_f1 (e1) ?_
    show WB _ _ _ _ _ _ _ (execs (_ :: _ :: _ :: []) _) _
    refine via fun ξ κ=>?_
    obtain ⟨d', e_3⟩ : ∃ d', d = d' + 1 := by
      cases d with
      | zero => simp at hd; omega
      | succ d => exact ⟨d, rfl⟩
    refine κ ?_;clear κ ξ
    subst e_3
    have ih' := ih d' rfl
    have hd2' : ys.length ≤ 2 * 2 ^ d' := by rw [Nat.pow_succ] at hd; omega
    refine via fun ξ κ=>?_
    obtain ⟨i, j, hij, hi1', hi2', hj2', hiv⟩ : ∃ i j, ys.length = i + j ∧ 1 ≤ i ∧ i ≤ 2 ^ d' ∧ (1 ≤ j ∧ j ≤ 2 ^ d') ∧ i = ys.length / 2 := ⟨ys.length / 2, ys.length - ys.length / 2, by omega, by omega, by omega, ⟨by omega, by omega⟩, rfl⟩
    refine κ ?_;clear κ ξ
    refine ex_assignL kis2 ki2_mid ?_
    repeat tb_rel
    refine i_shr (by omega) ?_
    intro _
    have em : (Lo + Hi).fdiv (2 ^ ((1 : Int)).toNat) = Lo + i := by
      rw [show ((1 : Int)).toNat = 1 from rfl, shr_eq 1 (by omega)]
      omega
    refine (Eq.symm em) ▸ ?_
    refine ex_assignL kis2 ki2_shift ?_
    repeat tb_rel
    refine e_free kis2 ki2_n (lk2_n cL) (.inl hn1) hn2 ?_
    have hni : n * i ≤ 2 ^ 20 := Nat.le_trans (Nat.mul_le_mul_left n (by omega)) hnk
    have es : (Lo + (i : Int) - Lo) * (n : Int) = ((n * i : Nat) : Int) := by
      rw [Int.natCast_mul, show Lo + (i : Int) - Lo = i by omega, Int.mul_comm]
    have bi : intBits (Lo + (i : Int) - Lo) ≤ 20 := bits_le (by omega) (by rw [show Lo + (i : Int) - Lo = i by omega, p20i]; rw [p20] at hpk; omega)
    have hn20 : n ≤ 2 ^ 20 := Nat.le_trans (Nat.le_mul_of_pos_right n h1) hnk
    have bn : intBits (n : Int) ≤ 21 := bits_le (by omega) (by rw [p21i]; rw [p20] at hn20; omega)
    refine i_mul (mul_ok bi bn (by omega)) ?_
    intro _
    rw [es]
    have hsum : n * ys.length = n * i + n * j := by rw [hij, Nat.mul_add]
    refine via fun ξ κ=>?_
    obtain ⟨y1, y2, e_4, hy1, hy2⟩ : ∃ y1 y2, ys = y1 ++ y2 ∧ y1.length = i ∧ y2.length = j := ⟨ys.take i, ys.drop i, (List.take_append_drop i ys).symm, by rw [List.length_take]; omega, by rw [List.length_drop]; omega⟩
    refine κ ?_;clear κ ξ
    subst e_4
    refine via fun ξ κ=>?_
    obtain ⟨m1, m2, e_5, hm1, hm2⟩ : ∃ m1 m2, mid = m1 ++ m2 ∧ m1.length = i ∧ m2.length = j := ⟨mid.take i, mid.drop i, (List.take_append_drop i mid).symm, by rw [List.length_take]; omega, by rw [List.length_drop]; omega⟩
    refine κ ?_;clear κ ξ
    subst e_5
    have hI1 : Ints m1 y1 ∧ Ints m2 y2 := by
      unfold Ints at *
      rw [List.map_append, List.map_append] at hI
      exact List.append_inj hI (by simp; omega)
    have by1 := fun d hd => hys d (List.mem_append_left y2 hd)
    have by2 := fun d hd => hys d (List.mem_append_right y1 hd)
    have u2 := undig_bd n y2 by2
    refine ex_ret ?_
    refine e_bin ?_
    refine e_bin ?_
    refine e_call_name (e_free kis2 ki2_inner (lk2_inner cL) (.inl hi1) hi2 ?_)
    refine call_f rfl (fo := fnMade (Str.ofString "inner") (Str.ofString "_digits2int.<locals>.inner") (innParams 6 0) (innBody 6 0) (innScope 6 0) (clos2 cL) doc0 pm0 c' ctv0) rfl ?_
    repeat tb_rel
    refine ⟨.inl hf0, ?_⟩
    refine WB.callI (z := (undig n y2)) G (fun s' O' at' => ih' _ _ s' (pre ++ m1) m2 post y2 o _ _ _ _ O' Rd (C0.mono fun a ob ha => ⟨at' _ _ (.inl ha), hnt0 _ _ ha⟩) (at' _ _ (.inl hdl0)) (by simpa using ho) hI1.2 (by omega) (by omega) by2 (by rw [hy2]; omega) (by rw [List.length_append]; omega) (by rw [List.length_append]; omega) (by rw [List.length_append]; omega)) ?_
    intro t2 new1
    repeat tb_rel
    refine i_shl (by omega) (by refine shl_ok (bits_le u2.1 u2.2) ?_; rw [hy2]; rw [p20] at hnk; omega) ?_
    intro _
    rw [Int.toNat_natCast]
    refine e_call_name (e_free kis2 ki2_inner (lk2_inner cL) (.inl hi1) hi2 ?_)
    refine call_f rfl (fo := fnMade (Str.ofString "inner") (Str.ofString "_digits2int.<locals>.inner") (innParams 6 0) (innBody 6 0) (innScope 6 0) (clos2 cL) doc0 pm0 c' ctv0) rfl ?_
    repeat tb_rel
    refine ⟨.inl hf0, ?_⟩
    refine WB.callI (z := (undig n y1)) G (fun s' O' at' => ih' _ _ s' pre m1 (m2 ++ post) y1 o _ _ _ _ O' Rd (C0.mono fun a ob ha => ⟨at' _ _ (.inl ha), hnt0 _ _ ha⟩) (at' _ _ (.inl hdl0)) (by simpa using ho) hI1.1 (by omega) (by omega) by1 (by rw [hy1]; omega) (by omega) (by omega) (by omega)) ?_
    intro t3 new2
    refine i_add ?_
    intro t4
    refine ⟨t4, ?_⟩
    rw [undig_append, hy1, Int.mul_comm, Int.add_comm]
theorem in2_all {cL f c' dl : Addr} {n : Nat} (hk : g0.k2 = some c') : ∀ d, In2 g0 mg mb cL f c' dl n d
  | 0 => in2_step hk (by omega)
  | d + 1 => in2_step hk fun d' e => by cases e; exact in2_all hk d
theorem digits2int {A : Around} {E : Value → Shared → Prop} {s : Shared} {dl : Addr} {o : Obj} {vs : List Value} {xs : List Int} {n : Nat} {u : Tok} (O : OkAt mg mb g0 s) (Ro : Room A 22) (hdl : s.heap.get? dl = some o) (ho : LO o vs) (hI : Ints vs xs)
    (hn : 1 ≤ n) (hxs : ∀ d ∈ xs, 0 ≤ d ∧ d < 2 ^ n) (hb : n * xs.length ≤ 2 ^ 20) :
    wpAny (model g0.prog g0.w) A (call (.ref 59) [.ref dl, .int n u]) (Back g0 s.heap fun v new => ∃ t, v = .int (undig n xs) t) E s := by
  refine enterC (name := "_digits2int") (f := 58) (i := 6) (n := 21) (binds := [(Str.ofString "digits", .ref dl), (Str.ofString "n", .int n u)]) (by decide) O Ro (fun pm => by rfl) ?_ (by decide) (by rfl) (by rfl) (by rfl) ?_
  · intro n0 x hx
    simp only [List.mem_cons, List.not_mem_nil, or_false] at hx
    rcases hx with rfl | rfl
    · exact .inr ⟨k__digits2int_digits, by rfl⟩
    · exact .inr ⟨k__digits2int_n, by rfl⟩
  intro L cells hL G Rd hC
  have hC' : CellsAre (bindC (envX (Str.ofString "_digits2int") (scopeOf 6) L 59 (.ref 58) (cellsFrom (L + 1) (scopeOf 6).names [])).kindOf [(Str.ofString "digits", .ref dl), (Str.ofString "n", .int n u)] fun _ => none) [(Str.ofString "inner", L + 3), (Str.ofString "n", L + 2), (Str.ofString "digits", L + 1)] cells := hC
  rw [bindC_c (show _ from k__digits2int_digits), bindC_c (show _ from k__digits2int_n), bindC] at hC'
  rw [bindL_c (show _ from k__digits2int_digits), bindL_c (show _ from k__digits2int_n), bindL]
  refine exE3 hC'.three fun oi on od h_0 => anE4 h_0 fun e_6 hoi hon hod => ?_
  clear h_0
  subst e_6
  have hoi' : oi.data = .cell none := hoi
  have hon' : on.data = .cell (some (.int n u)) := hon
  have hod' : od.data = .cell (some (.ref dl)) := hod
  have hdl0 : (hideT s.heap).get? dl = some o := hideT_get hdl (O.notTab hdl ho.cls)
  show WB _ _ _ _ _ _ _ (execs (_ :: _ :: []) (envX (Str.ofString "_digits2int") (scopeOf 6) L 59 (.ref 58) [(Str.ofString "inner", L + 3), (Str.ofString "n", L + 2), (Str.ofString "digits", L + 1)])) _
  refine ex_def (P := 54) (.inr ⟨rfl, rfl, rfl, rfl⟩) rfl rfl G G.hd2 (clos := clos2 L) (by rfl) (by rfl) (by rfl) (by rfl) (by rfl) ks__digits2int k__digits2int_inner rfl (.head _) hoi' fun f c' doc pm ctv oi3 N3 d3 H3 m3 mf => ?_
  have hod3 : (L + 1, od) ∈ N3 := (H3 (L + 1, od) (.tail _ (.tail _ (.head _)))).resolve_left (by simp)
  have hon3 : (L + 2, on) ∈ N3 := (H3 (L + 2, on) (.tail _ (.head _))).resolve_left (by simp)
  have hlen : xs.length ≤ n * xs.length := Nat.le_mul_of_pos_left _ (by omega)
  have hvl := hI.length
  rw [p20] at hb
  refine ex_ret ?_
  refine e_ifexp ?_
  refine t_name ?_
  refine e_cell ks__digits2int k__digits2int_digits rfl (.inr hod3) hod' ?_
  refine truthy_l (.inl hdl0) ho (by omega) ?_
  by_cases h0 : xs = []
  · subst h0
    have : vs = [] := by simpa using hvl
    subst this
    show WB _ _ _ _ _ _ _ (eval (.Constant (.int 0) _ _) _) _
    repeat tb_rel
    exact ⟨_, rfl⟩
  · have hne : vs ≠ [] := fun e => h0 (by rw [e] at hvl; exact List.length_eq_zero_iff.mp hvl.symm)
    have e1 : (!vs.isEmpty) = true := by simp [hne]
    have hx1 : 1 ≤ xs.length := by cases xs with
      | nil => exact absurd rfl h0
      | cons => simp
    refine if_t3 (e1) ?_
    refine e_call_name (e_cell ks__digits2int k__digits2int_inner rfl (.inr m3) d3 ?_)
    refine call_f rfl (fo := fnMade (Str.ofString "inner") (Str.ofString "_digits2int.<locals>.inner") (innParams 6 0) (innBody 6 0) (innScope 6 0) (clos2 L) doc pm c' ctv) rfl ?_
    repeat tb_rel
    refine e_callb G ks__digits2int k__digits2int_len (id := "len") (by decide) rfl ?_
    refine args_cons ?_
    refine e_cell ks__digits2int k__digits2int_digits rfl (.inr hod3) hod' ?_
    refine args_nil ?_
    refine c_lenL (.inl hdl0) ho (by omega) fun _ => ?_
    refine args_nil ⟨.inr mf, ?_⟩
    refine (Eq.symm hvl) ▸ ?_
    refine WB.callI (z := (undig n xs)) G (fun s' O' at' => in2_all (n := n) (cL := L) (dl := dl) know_k2 20 _ _ s' [] vs [] xs o _ _ _ _ O' Rd ?_ (at' _ _ (.inl hdl0)) (by simpa using ho) hI (by rw [p20]; omega) hx1 hxs (by rw [p20]; omega) (by rw [p20]; simp; omega) (by simp) (by simp)) ?_
    · exact ⟨⟨doc, pm, ctv, at' _ _ (.inr mf), O'.notTab (at' _ _ (.inr mf)) nofun⟩, ⟨on, u, ⟨at' _ _ (.inr hon3), ntab_gt (Nat.lt_of_lt_of_le hL (Nat.le_add_right L 2))⟩, hon'⟩, ⟨oi3, ⟨at' _ _ (.inr m3), ntab_gt (Nat.lt_of_lt_of_le hL (Nat.le_add_right L 3))⟩, d3⟩, ⟨od, ⟨at' _ _ (.inr hod3), ntab_gt (Nat.lt_of_lt_of_le hL (Nat.le_add_right L 1))⟩, hod'⟩⟩
    intro t new
    exact ⟨t, rfl⟩
end
end Mine

end

section
open PySem PySem.W PyProof.Rows
namespace Mine
open Builtin.Int (intBits)
section
variable {α β : Type} {prog : Program} {w : World} {g0 : Cx} {mg mb : Loc} {A : Around} {E : Value → Shared → Prop} {h₀ : Heap} {L : Addr} {m : Loc} {N : Led} {env : Env}
noncomputable def Yield (g0 : Cx) (A : Around) (T : Nat) (I : Addr) (lo : List (Addr × Obj)) : List (Value → Prop) → Obj → Prop
  | [], o => ¬ isCode o ∧ ∀ (s : Shared) (Q : Option Value → Shared → Prop) (E : Value → Shared → Prop), s.heap.get? I = some o → (∀ p ∈ lo, s.heap.get? p.1 = some p.2) → T ≤ s.toks →
      (∀ h' tk, (∀ b ob, b ≠ I → s.heap.get? b = some ob → h'.get? b = some ob) → Q none { s with heap := h', toks := tk }) → wpAny (model g0.prog g0.w) A (pyNext (.ref I)) Q E s
  | P :: r, o => ¬ isCode o ∧ ∀ (s : Shared) (Q : Option Value → Shared → Prop) (E : Value → Shared → Prop), s.heap.get? I = some o → (∀ p ∈ lo, s.heap.get? p.1 = some p.2) → T ≤ s.toks →
      (∀ v h' o' tk, P v → h'.get? I = some o' → Yield g0 A T I lo r o' → (∀ b ob, b ≠ I → s.heap.get? b = some ob → h'.get? b = some ob) → Q (some v) { s with heap := h', toks := tk }) → wpAny (model g0.prog g0.w) A (pyNext (.ref I)) Q E s
theorem Yield.notCode {T : Nat} {I : Addr} {lo : List (Addr × Obj)} {Ps : List (Value → Prop)} {o : Obj} (x : Yield g0 A T I lo Ps o) : ¬ isCode o := by
  cases Ps with
  | nil => exact x.1
  | cons => exact x.1
theorem Yield.of {T : Nat} {I : Addr} {lo : List (Addr × Obj)} {n : Nat} {P : Nat → Value → Prop} {St : Nat → Heap → Prop} {fp : List Addr} {is : Obj → Prop}
    (W : Walks g0.prog g0.w A I fp [I] n P St) (hSt : ∀ i h, St i h → ∃ o, h.get? I = some o ∧ is o) (hc : ∀ o, is o → ¬ isCode o)
    (hfp : ∀ b ∈ fp, b = I ∨ ∃ ob, (b, ob) ∈ lo) : ∀ (k i : Nat) (o : Obj), i + k = n → is o → (∀ h, h.get? I = some o → (∀ p ∈ lo, h.get? p.1 = some p.2) → St i h) →
    Yield g0 A T I lo ((List.range' i k).map P) o
  | 0, i, o, hi, ho, hs => ⟨hc o ho, fun s Q E hI hl _ q => W.done s Q E ((show i = n by omega) ▸ hs _ hI hl) fun h' tk k => q h' tk fun b ob hb e => k b ob (by simpa using hb) e⟩
  | k + 1, i, o, hi, ho, hs => by
    rw [List.range'_succ, List.map_cons]
    refine ⟨hc o ho, fun s Q E hI hl _ q => W.item i s Q E (by omega) (hs _ hI hl) fun v h' tk hP hSt' hk => ?_⟩
    refine exE1 (hSt _ _ hSt') fun o' h_0 => anE2 h_0 fun ho' his => ?_
    clear h_0
    have hk' : ∀ b ob, b ≠ I → s.heap.get? b = some ob → h'.get? b = some ob := fun b ob hb e => hk b ob (by simpa using hb) e
    by_cases hIl : ∃ p ∈ lo, p.1 = I
    · -- the list is the iterator itself: then nothing stands in the way, but such a case is idle
      refine exE1 hIl fun p h_0 => anE2 h_0 fun hp e => ?_
      clear h_0 hIl
      refine q v h' o' tk hP ho' (Yield.of W hSt hc hfp k (i + 1) o' (by omega) his fun h2 h2I h2l => ?_) hk'
      refine W.frame _ _ _ hSt' fun b hb ob eb => ?_
      rcases hfp b hb with rfl | ⟨ob', hm⟩
      · rw [ho'] at eb; cases eb; exact h2I
      · by_cases hbI : b = I
        · subst hbI; rw [ho'] at eb; cases eb; exact h2I
        · have h3 := hk' _ _ hbI (hl _ hm)
          rw [h3] at eb; cases eb; exact h2l _ hm
    · refine q v h' o' tk hP ho' (Yield.of W hSt hc hfp k (i + 1) o' (by omega) his fun h2 h2I h2l => ?_) hk'
      refine W.frame _ _ _ hSt' fun b hb ob eb => ?_
      rcases hfp b hb with rfl | ⟨ob', hm⟩
      · rw [ho'] at eb; cases eb; exact h2I
      · by_cases hbI : b = I
        · subst hbI; rw [ho'] at eb; cases eb; exact h2I
        · have h3 := hk' _ _ hbI (hl _ hm)
          rw [h3] at eb; cases eb; exact h2l _ hm
theorem Inv.tail {I : Addr} {o : Obj} {s : Shared} (x : Inv g0 h₀ L m ((I, o) :: N) s) : Inv g0 h₀ L m N s :=
  ⟨x.gens, x.os, x.tab, x.fr, fun p hp => x.led p (.tail _ hp), (List.nodup_cons.mp x.nd).2, x.t54, x.fl⟩
theorem WB.frame {I : Addr} {o : Obj} {t : Sem α} {Q : α → Loc → Led → Prop} (h : WB g0 A E h₀ L m N t Q) :
    WB g0 A E h₀ L m ((I, o) :: N) t fun a m' N' => ∃ N'', N' = (I, o) :: N'' ∧ Q a m' N'' := ⟨fun s x => by
  refine wpAny_mono (h.run s x.tail) (fun a s' ⟨m', N', I', S, q⟩ => ?_) fun _ _ e => e
  have hI := x.led _ (.head _)
  have hn := List.nodup_cons.mp x.nd
  have hg := S.keep I o hI.1 hI.2.1 (fun hm => absurd hm hn.1) hI.2.2.2
  refine ⟨m', (I, o) :: N', ⟨I'.gens, I'.os, I'.tab, I'.fr, fun p hp => ?_, List.nodup_cons.mpr ⟨fun hm => ?_, I'.nd⟩, I'.t54, I'.fl⟩, ⟨fun b ob e hL hN hT => S.keep b ob e hL (fun hm => hN (.tail _ hm)) hT, fun p hp => ?_, S.size⟩, N', rfl, q⟩
  · rcases List.mem_cons.mp hp with rfl | hp
    · exact ⟨hg, hI.2⟩
    · exact I'.led p hp
  · refine exE1 (List.mem_map.mp hm) fun p h_0 => anE2 h_0 fun hp e => ?_
    clear h_0
    rcases S.fresh p hp with h1 | h1
    · rw [show p.1 = I from e] at h1; exact hn.1 h1
    · rw [show p.1 = I from e] at h1; exact absurd (Heap.lt_size hI.1) (Nat.not_lt.mpr h1)
  · rcases List.mem_cons.mp hp with rfl | hp
    · exact .inl (.head _)
    · exact (S.fresh p hp).imp (fun h => .tail _ h) id⟩
end
namespace hWB_next_nil
noncomputable def st_ (g0 : Mine.Cx) (A : PySem.Around) (E : PySem.Value → PySem.Shared → Prop) (h₀ : PySem.Heap) (L : PySem.Addr) (m : Mine.Loc) (N : Mine.Led) (T : Nat) (I : PySem.Addr) (lo : List (PySem.Addr × PySem.Obj)) (o : PySem.Obj) (Q : Option PySem.Value → Mine.Loc → Mine.Led → Prop) : Prop := ∀ (hy : Yield g0 A T I lo [] o) (hl : ∀ p ∈ lo, At h₀ N p.1 p.2) (hT : T ≤ flo m) (h : Q none m N), WB g0 A E h₀ L m ((I, o) :: N) (pyNext (.ref I)) Q
noncomputable abbrev T_ := (((Mine.Cx × (PySem.Around × (PySem.Value → PySem.Shared → Prop))) × (PySem.Heap × (PySem.Addr × Mine.Loc))) × ((Mine.Led × (Nat × PySem.Addr)) × ((List (PySem.Addr × PySem.Obj)) × (PySem.Obj × (Option PySem.Value → Mine.Loc → Mine.Led → Prop)))))
theorem ne_ : Nonempty T_ := ⟨by repeat' (first | apply Prod.mk | exact default | exact nAr | exact nCx | exact nSh | constructor)⟩
noncomputable def Q_ (p : T_) : Prop := st_ p.1.1.1 p.1.1.2.1 p.1.1.2.2 p.1.2.1 p.1.2.2.1 p.1.2.2.2 p.2.1.1 p.2.1.2.1 p.2.1.2.2 p.2.2.1 p.2.2.2.1 p.2.2.2.2
noncomputable def w_ : T_ := @Classical.epsilon _ ne_ fun p => ¬ Q_ p
noncomputable def h₀ := w_.1.2.1
noncomputable def m := w_.1.2.2.2
noncomputable def N := w_.2.1.1
noncomputable def I := w_.2.1.2.2
theorem main_ : st_ w_.1.1.1 w_.1.1.2.1 w_.1.1.2.2 h₀ w_.1.2.2.1 m N w_.2.1.2.1 I w_.2.2.1 w_.2.2.2.1 w_.2.2.2.2 := by
  intro hy hl hT h
  exact (⟨fun s x => by
  have hI := x.led _ (.head _)
  refine wpAny_ts (hy.2 s _ _ hI.1 (fun p hp => x.tail.at (hl p hp)) (Nat.le_trans hT x.fl.1) fun h' tk k ht sz => ?_)
  have hn := List.nodup_cons.mp x.nd
  have keep : ∀ b ob, h₀.get? b = some ob → h'.get? b = some ob := fun b ob e => k b ob (fun q => by subst q; rw [hI.2.2.1] at e; cases e) (x.fr.keep b ob e)
  have y := hy.1
  refine ⟨m, N, ⟨x.gens, x.os, x.tab.keeps (fun b ob hb e => k b ob (fun q => hI.2.2.2 (q ▸ hb)) e) (fun b ob e hc => k b ob (fun q => by subst q; rw [hI.1] at e; cases e; exact y hc) e), ⟨x.fr.ns.extBut k hI.2.1.symm, keep, x.fr.above⟩, fun p hp => ?_, hn.2, x.t54, Nat.le_trans x.fl.1 ht, Nat.lt_of_lt_of_le x.fl.2 ht⟩, ⟨fun b ob e hL hN hT => k b ob (fun q => ?_) e, fun p hp => .inl (.tail _ (List.mem_map_of_mem hp)), sz⟩, h⟩
  · have := x.led p (.tail _ hp)
    exact ⟨k _ _ (fun q => hn.1 (List.mem_map.mpr ⟨p, hp, q⟩)) this.1, this.2⟩
  · subst q; rw [hI.1] at e; cases e; exact y (hN (.head _))⟩)
end hWB_next_nil
theorem WB.next_nil {g0 A E h₀ L m N T I lo o Q} : hWB_next_nil.st_ g0 A E h₀ L m N T I lo o Q := Mine.hk hWB_next_nil.ne_ (P := hWB_next_nil.Q_) hWB_next_nil.main_ (((g0, (A, E)), (h₀, (L, m))), ((N, (T, I)), (lo, (o, Q))))
section
variable {α β : Type} {prog : Program} {w : World} {g0 : Cx} {mg mb : Loc} {A : Around} {E : Value → Shared → Prop} {h₀ : Heap} {L : Addr} {m : Loc} {N : Led} {env : Env}
end
namespace hWB_next_cons
noncomputable def st_ (g0 : Mine.Cx) (A : PySem.Around) (E : PySem.Value → PySem.Shared → Prop) (h₀ : PySem.Heap) (L : PySem.Addr) (m : Mine.Loc) (N : Mine.Led) (T : Nat) (I : PySem.Addr) (lo : List (PySem.Addr × PySem.Obj)) (o : PySem.Obj) (P : PySem.Value → Prop) (r : List (PySem.Value → Prop)) (Q : Option PySem.Value → Mine.Loc → Mine.Led → Prop) : Prop := ∀ (hy : Yield g0 A T I lo (P :: r) o) (hl : ∀ p ∈ lo, At h₀ N p.1 p.2) (hT : T ≤ flo m) (h : ∀ v o', P v → Yield g0 A T I lo r o' → Q (some v) m ((I, o') :: N)), WB g0 A E h₀ L m ((I, o) :: N) (pyNext (.ref I)) Q
noncomputable abbrev T_ := (((Mine.Cx × (PySem.Around × (PySem.Value → PySem.Shared → Prop))) × ((PySem.Heap × PySem.Addr) × (Mine.Loc × Mine.Led))) × ((Nat × (PySem.Addr × (List (PySem.Addr × PySem.Obj)))) × ((PySem.Obj × (PySem.Value → Prop)) × ((List (PySem.Value → Prop)) × (Option PySem.Value → Mine.Loc → Mine.Led → Prop)))))
theorem ne_ : Nonempty T_ := ⟨by repeat' (first | apply Prod.mk | exact default | exact nAr | exact nCx | exact nSh | constructor)⟩
noncomputable def Q_ (p : T_) : Prop := st_ p.1.1.1 p.1.1.2.1 p.1.1.2.2 p.1.2.1.1 p.1.2.1.2 p.1.2.2.1 p.1.2.2.2 p.2.1.1 p.2.1.2.1 p.2.1.2.2 p.2.2.1.1 p.2.2.1.2 p.2.2.2.1 p.2.2.2.2
noncomputable def w_ : T_ := @Classical.epsilon _ ne_ fun p => ¬ Q_ p
noncomputable def g0 := w_.1.1.1
noncomputable def A := w_.1.1.2.1
noncomputable def h₀ := w_.1.2.1.1
noncomputable def m := w_.1.2.2.1
noncomputable def N := w_.1.2.2.2
noncomputable def T := w_.2.1.1
noncomputable def I := w_.2.1.2.1
noncomputable def lo := w_.2.1.2.2
noncomputable def P := w_.2.2.1.2
noncomputable def r := w_.2.2.2.1
theorem main_ : st_ g0 A w_.1.1.2.2 h₀ w_.1.2.1.2 m N T I lo w_.2.2.1.1 P r w_.2.2.2.2 := by
  intro hy hl hT h
  exact (⟨fun s x => by
  have hI := x.led _ (.head _)
  refine wpAny_ts (hy.2 s _ _ hI.1 (fun p hp => x.tail.at (hl p hp)) (Nat.le_trans hT x.fl.1) fun v h' o' tk hP ho' hY k ht sz => ?_)
  have hn := List.nodup_cons.mp x.nd
  have keep : ∀ b ob, h₀.get? b = some ob → h'.get? b = some ob := fun b ob e => k b ob (fun q => by subst q; rw [hI.2.2.1] at e; cases e) (x.fr.keep b ob e)
  have y := hy.1
  refine ⟨m, (I, o') :: N, ⟨x.gens, x.os, x.tab.keeps (fun b ob hb e => k b ob (fun q => hI.2.2.2 (q ▸ hb)) e) (fun b ob e hc => k b ob (fun q => by subst q; rw [hI.1] at e; cases e; exact y hc) e), ⟨x.fr.ns.extBut k hI.2.1.symm, keep, x.fr.above⟩, fun p hp => ?_, x.nd, x.t54, Nat.le_trans x.fl.1 ht, Nat.lt_of_lt_of_le x.fl.2 ht⟩, ⟨fun b ob e hL hN hT => k b ob (fun q => ?_) e, fun p hp => .inl ?_, sz⟩, h v o' hP hY⟩
  · rcases List.mem_cons.mp hp with rfl | hp
    · exact ⟨ho', hI.2⟩
    · have := x.led p (.tail _ hp)
      exact ⟨k _ _ (fun q => hn.1 (List.mem_map.mpr ⟨p, hp, q⟩)) this.1, this.2⟩
  · subst q; rw [hI.1] at e; cases e; exact y (hN (.head _))
  · rcases List.mem_cons.mp hp with rfl | hp
    · exact .head _
    · exact .tail _ (List.mem_map_of_mem hp)⟩)
end hWB_next_cons
theorem WB.next_cons {g0 A E h₀ L m N T I lo o P r Q} : hWB_next_cons.st_ g0 A E h₀ L m N T I lo o P r Q := Mine.hk hWB_next_cons.ne_ (P := hWB_next_cons.Q_) hWB_next_cons.main_ (((g0, (A, E)), ((h₀, L), (m, N))), ((T, (I, lo)), ((o, P), (r, Q))))
section
variable {α β : Type} {prog : Program} {w : World} {g0 : Cx} {mg mb : Loc} {A : Around} {E : Value → Shared → Prop} {h₀ : Heap} {L : Addr} {m : Loc} {N : Led} {env : Env}
end
section
variable {α β : Type} {prog : Program} {w : World} {g0 : Cx} {mg mb : Loc} {A : Around} {h₀ : Heap} {L : Addr} {m : Loc} {N : Led}
variable {cn : Str} {cs : Scope} {a0 : Addr} {ccd : Value} {cl : List (Str × Addr)}
end
namespace hex_forE
noncomputable def st_ (g0 : Mine.Cx) (A : PySem.Around) (h₀ : PySem.Heap) (L : PySem.Addr) (m : Mine.Loc) (N : Mine.Led) (cn : PySem.Str) (cs : PySem.Scope) (a0 : PySem.Addr) (ccd : PySem.Value) (cl : List (PySem.Str × PySem.Addr)) (Eb Et : PySem.Value → PySem.Shared → Prop) (x : PySem.Str) (px pos : PySem.Pos) (iter : PySem.Expr) (body rest : List PySem.Stmt) (Q : PySem.Flow → Mine.Loc → Mine.Led → Prop) (lo : List (PySem.Addr × PySem.Obj)) (Ps : List (PySem.Value → Prop)) (J : List (PySem.Value → Prop) → Mine.Loc → Mine.Led → Prop) (T : optParam Nat 0) : Prop := ∀ (hk : cs.kind = .function) (hx : cs.names.lookup x = some .local) (h : WB g0 A (fun _ _ => False) h₀ L m N (eval iter (envX cn cs L a0 ccd cl)) fun v m1 N1 => WB g0 A (fun _ _ => False) h₀ L m1 N1 (pyIter v) fun it m2 N2 => ∃ I o N3, it = .ref I ∧ N2 = (I, o) :: N3 ∧ Yield g0 A T I lo Ps o ∧ J Ps m2 N3) (hlo : ∀ Ps m N, J Ps m N → ∀ p ∈ lo, At h₀ N p.1 p.2) (turn : ∀ P r m N v, J (P :: r) m N → P v → WB g0 A Et h₀ L (upd m x v) N (execs body (envX cn cs L a0 ccd cl)) (LoopP J r (fun m' N' => WB g0 A Eb h₀ L m' N' (execs rest (envX cn cs L a0 ccd cl)) Q) fun v => Q (.ret v))) (done : ∀ m N, J [] m N → WB g0 A Eb h₀ L m N (execs rest (envX cn cs L a0 ccd cl)) Q) (hE : ∀ e s', Et e s' → notedBy (model g0.prog g0.w) A (envX cn cs L a0 ccd cl) (cameBackBy (model g0.prog g0.w) A (envX cn cs L a0 ccd cl) Eb) e s') (hs : ∀ x, foldedSetIterable iter (envX cn cs L a0 ccd cl) x = pure x) (hfk : (x == floorKey) = false) (hT : ∀ Ps m N, J Ps m N → T ≤ flo m), WB g0 A Eb h₀ L m N (execs (.For (.Name x px) iter body [] pos :: rest) (envX cn cs L a0 ccd cl)) Q
noncomputable abbrev T_ := ((((Mine.Cx × (PySem.Around × PySem.Heap)) × (PySem.Addr × (Mine.Loc × Mine.Led))) × ((PySem.Str × (PySem.Scope × PySem.Addr)) × (PySem.Value × ((List (PySem.Str × PySem.Addr)) × (PySem.Value → PySem.Shared → Prop))))) × ((((PySem.Value → PySem.Shared → Prop) × (PySem.Str × PySem.Pos)) × (PySem.Pos × (PySem.Expr × (List PySem.Stmt)))) × (((List PySem.Stmt) × ((PySem.Flow → Mine.Loc → Mine.Led → Prop) × (List (PySem.Addr × PySem.Obj)))) × ((List (PySem.Value → Prop)) × ((List (PySem.Value → Prop) → Mine.Loc → Mine.Led → Prop) × (optParam Nat 0))))))
theorem ne_ : Nonempty T_ := ⟨by repeat' (first | apply Prod.mk | exact default | exact nAr | exact nCx | exact nSh | constructor)⟩
noncomputable def Q_ (p : T_) : Prop := st_ p.1.1.1.1 p.1.1.1.2.1 p.1.1.1.2.2 p.1.1.2.1 p.1.1.2.2.1 p.1.1.2.2.2 p.1.2.1.1 p.1.2.1.2.1 p.1.2.1.2.2 p.1.2.2.1 p.1.2.2.2.1 p.1.2.2.2.2 p.2.1.1.1 p.2.1.1.2.1 p.2.1.1.2.2 p.2.1.2.1 p.2.1.2.2.1 p.2.1.2.2.2 p.2.2.1.1 p.2.2.1.2.1 p.2.2.1.2.2 p.2.2.2.1 p.2.2.2.2.1 p.2.2.2.2.2
noncomputable def w_ : T_ := @Classical.epsilon _ ne_ fun p => ¬ Q_ p
noncomputable def g0 := w_.1.1.1.1
noncomputable def A := w_.1.1.1.2.1
noncomputable def h₀ := w_.1.1.1.2.2
noncomputable def L := w_.1.1.2.1
noncomputable def m := w_.1.1.2.2.1
noncomputable def N := w_.1.1.2.2.2
noncomputable def cn := w_.1.2.1.1
noncomputable def cs := w_.1.2.1.2.1
noncomputable def a0 := w_.1.2.1.2.2
noncomputable def ccd := w_.1.2.2.1
noncomputable def cl := w_.1.2.2.2.1
noncomputable def Eb := w_.1.2.2.2.2
noncomputable def x := w_.2.1.1.2.1
noncomputable def px := w_.2.1.1.2.2
noncomputable def body := w_.2.1.2.2.2
noncomputable def rest := w_.2.2.1.1
noncomputable def Q := w_.2.2.1.2.1
noncomputable def lo := w_.2.2.1.2.2
noncomputable def Ps := w_.2.2.2.1
noncomputable def J := w_.2.2.2.2.1
noncomputable def T := w_.2.2.2.2.2
theorem main_ : st_ g0 A h₀ L m N cn cs a0 ccd cl Eb w_.2.1.1.1 x px w_.2.1.2.1 w_.2.1.2.2.1 body rest Q lo Ps J T := by
  intro hk hx h hlo turn done hE hs hfk hT
  refine ex_cons ⟨fun s I => wpAny_For ?_ hs⟩
  refine WB.runC I (h.mono fun v m1 N1 q1 s1 I1 S1 => ?_)
  refine WB.runC I1 (q1.mono fun it m2 N2 q2 s2 I2 S2 => ?_)
  refine exE3 q2 fun Ia o N3 h_0 => anE4 h_0 fun e_1 e_2 hY hJ => ?_
  clear h_0 q2
  subst e_1
  subst e_2
  have main : codeAny (model g0.prog g0.w) A (.forLoop (.Name x px) (.ref Ia) body [] (envX cn cs L a0 ccd cl)) (fun r s' => match r with
      | .ok f => ∃ m' N', Inv g0 h₀ L m' N' s' ∧ Step L N N' s.heap s'.heap ∧ (match f with | .next => WB g0 A Eb h₀ L m' N' (execs rest (envX cn cs L a0 ccd cl)) Q | f => Q f m' N')
      | .error e => cameBackBy (model g0.prog g0.w) A (envX cn cs L a0 ccd cl) Eb e s') s2 := by
    refine codeAny_forLoop_any (fun k s' => ∃ Ps o m' N', k = Ps.length ∧ Inv g0 h₀ L m' ((Ia, o) :: N') s' ∧ Step L N ((Ia, o) :: N') s.heap s'.heap ∧ Yield g0 A T Ia lo Ps o ∧ J Ps m' N') (fun k s' hI => ?_) Ps.length ⟨Ps, o, m2, N3, rfl, I2, S1.trans S2, hY, hJ⟩
    refine exE4 hI fun Ps o m' N' h_0 => anE5 h_0 fun e_3 I' S' hY hJ => ?_
    clear h_0 hI
    subst e_3
    cases Ps with
    | nil =>
      refine WB.runC I' (WB.next_nil hY (hlo _ _ _ hJ) (hT _ _ _ hJ) fun s3 I3 S3 => ?_)
      refine wpAny_execs_nil ?_
      exact ⟨_, _, I3, S'.trans S3, done _ _ hJ⟩
    | cons P r =>
      refine WB.runC I' (WB.next_cons hY (hlo _ _ _ hJ) (hT _ _ _ hJ) fun v o' hP hY' s3 I3 S3 => ?_)
      show wpAny _ _ (pure ()) _ _ _
      refine wpAny_pure ?_
      refine wpAny_assign_Name ?_
      refine WB.runC I3 (WB.local hk hx (fun s4 I4 S4 => ?_) hfk)
      refine wpAny_mono ((WB.frame (I := Ia) (o := o') (turn P r m' N' v hJ hP)).run s4 I4) (fun f s5 ⟨m5, N5, I5, S5, N6, e5, q⟩ => ?_) fun e s' q => hE e s' q
      rw [e5] at I5 S5
      have S := S'.trans (S3.trans (S4.trans S5))
      have drop : Inv g0 h₀ L m5 N6 s5 ∧ Step L N N6 s.heap s5.heap := ⟨I5.tail, ⟨S.keep, fun p hp => S.fresh p (.tail _ hp), S.size⟩⟩
      cases f with
      | next => exact ⟨r.length, Nat.lt_succ_self _, r, o', m5, N6, rfl, I5, S, hY', q⟩
      | cont => exact ⟨r.length, Nat.lt_succ_self _, r, o', m5, N6, rfl, I5, S, hY', q⟩
      | brk => exact ⟨m5, N6, drop.1, drop.2, q⟩
      | ret v => exact ⟨m5, N6, drop.1, drop.2, q⟩
  exact codeAny_mono main fun r s' q => by cases r <;> first | exact q | exact q.elim
end hex_forE
section
variable {α β : Type} {prog : Program} {w : World} {g0 : Cx} {mg mb : Loc} {A : Around} {h₀ : Heap} {L : Addr} {m : Loc} {N : Led}
variable {cn : Str} {cs : Scope} {a0 : Addr} {ccd : Value} {cl : List (Str × Addr)}
theorem ex_forE {Eb Et : Value → Shared → Prop} {x : Str} {px pos : Pos} {iter : Expr} {body rest : List Stmt} {Q : Flow → Loc → Led → Prop} (lo : List (Addr × Obj)) (Ps : List (Value → Prop)) (J : List (Value → Prop) → Loc → Led → Prop) (T : Nat := 0)
    (hk : cs.kind = .function) (hx : cs.names.lookup x = some .local)
    (h : WB g0 A (fun _ _ => False) h₀ L m N (eval iter (envX cn cs L a0 ccd cl)) fun v m1 N1 => WB g0 A (fun _ _ => False) h₀ L m1 N1 (pyIter v) fun it m2 N2 => ∃ I o N3, it = .ref I ∧ N2 = (I, o) :: N3 ∧ Yield g0 A T I lo Ps o ∧ J Ps m2 N3)
    (hlo : ∀ Ps m N, J Ps m N → ∀ p ∈ lo, At h₀ N p.1 p.2)
    (turn : ∀ P r m N v, J (P :: r) m N → P v → WB g0 A Et h₀ L (upd m x v) N (execs body (envX cn cs L a0 ccd cl)) (LoopP J r (fun m' N' => WB g0 A Eb h₀ L m' N' (execs rest (envX cn cs L a0 ccd cl)) Q) fun v => Q (.ret v)))
    (done : ∀ m N, J [] m N → WB g0 A Eb h₀ L m N (execs rest (envX cn cs L a0 ccd cl)) Q)
    (hE : ∀ e s', Et e s' → notedBy (model g0.prog g0.w) A (envX cn cs L a0 ccd cl) (cameBackBy (model g0.prog g0.w) A (envX cn cs L a0 ccd cl) Eb) e s')
    (hs : ∀ x, foldedSetIterable iter (envX cn cs L a0 ccd cl) x = pure x := by intro _; rfl) (hfk : (x == floorKey) = false := by decide) (hT : ∀ Ps m N, J Ps m N → T ≤ flo m := by intros; exact Nat.zero_le _) :
    WB g0 A Eb h₀ L m N (execs (.For (.Name x px) iter body [] pos :: rest) (envX cn cs L a0 ccd cl)) Q := Mine.hk hex_forE.ne_ (P := hex_forE.Q_) hex_forE.main_ ((((g0, (A, h₀)), (L, (m, N))), ((cn, (cs, a0)), (ccd, (cl, Eb)))), (((Et, (x, px)), (pos, (iter, body))), ((rest, (Q, lo)), (Ps, (J, T))))) hk hx h hlo turn done hE hs hfk hT
end
end Mine

end

section
open PySem PySem.W PyProof.Rows
namespace Mine
open Builtin.Int (intBits)
section
variable {α β : Type} {prog : Program} {w : World} {g0 : Cx} {mg mb : Loc} {A : Around} {E : Value → Shared → Prop} {h₀ : Heap} {L : Addr} {m : Loc} {N : Led} {env : Env}
theorem WB.allocR {t : Sem Value} {R : Obj → Prop} {Q : Value → Loc → Led → Prop}
    (lem : ∀ s (Q' : Value → Shared → Prop) E', (∀ a o, At h₀ N a o → s.heap.get? a = some o) → (∀ o tk, R o → o.isFreed = false → Q' (.ref s.heap.objs.size) { s with heap := s.heap.push o, toks := tk }) → wpAny (model g0.prog g0.w) A t Q' E' s)
    (h : ∀ a o, R o → Fresh h₀ L N a → Q (.ref a) m ((a, o) :: N)) : WB g0 A E h₀ L m N t Q :=
  ⟨fun s I => wpAny_tk (lem s _ _ (fun _ _ x => I.at x) fun o tk r hf ht => by
    refine ⟨m, (s.heap.objs.size, o) :: N, I.add (M := [(s.heap.objs.size, o)]) (fun b o' e => Heap.get?_push_of_some _ e) (fun p hp => ?_) (by simp) tk ht, ⟨fun b o' e _ _ _ => Heap.get?_push_of_some _ e, fun p hp => ?_, ?_⟩,
      h _ _ r ⟨Nat.le_trans I.fr.above (Nat.le_of_lt I.fr.ns.lt), I.fr.ns.lt, fun p hp => Heap.lt_size (I.led p hp).1⟩⟩
    · rw [List.mem_singleton.mp hp]; exact ⟨Heap.get?_push_size _ hf, Nat.le_refl _⟩
    · rcases List.mem_cons.mp hp with rfl | hp
      · exact .inr (Nat.le_refl _)
      · exact .inl (List.mem_map_of_mem hp)
    · show s.heap.objs.size ≤ (s.heap.push o).objs.size
      rw [Heap.size_push]; exact Nat.le_succ _)⟩
theorem Yield.mono {T : Nat} {I : Addr} {lo : List (Addr × Obj)} : ∀ {Ps Ps' : List (Value → Prop)} {o : Obj}, Yield g0 A T I lo Ps o → Ps.length = Ps'.length → (∀ (i : Nat) (P P' : Value → Prop), Ps[i]? = some P → Ps'[i]? = some P' → ∀ v, P v → P' v) → Yield g0 A T I lo Ps' o
  | [], [], _, h, _, _ => h
  | P :: r, P' :: r', o, h, hl, hp => by
    refine ⟨h.1, fun s Q E hI hlo hT q => h.2 s Q E hI hlo hT fun v h' o' tk hP ho' hY hk => q v h' o' tk (hp 0 P P' rfl rfl v hP) ho' (hY.mono (by simpa using hl) fun i P1 P2 e1 e2 => hp (i + 1) P1 P2 (by simpa using e1) (by simpa using e2)) hk⟩
  | [], _ :: _, _, _, h, _ => by simp at h
  | _ :: _, [], _, _, h, _ => by simp at h
theorem ex_forXE {Eb Et : Value → Shared → Prop} {ι : Type} {x : Str} {px pos : Pos} {iter : Expr} {body rest : List Stmt} {Q : Flow → Loc → Led → Prop} {cn : Str} {cs : Scope} {a0 : Addr} {ccd : Value} {cl : List (Str × Addr)} (lo : List (Addr × Obj)) (f : ι → Value → Prop) (xs : List ι) (J : List ι → Loc → Led → Prop) (T : Nat := 0)
    (hk : cs.kind = .function) (hx : cs.names.lookup x = some .local)
    (h : WB g0 A (fun _ _ => False) h₀ L m N (eval iter (envX cn cs L a0 ccd cl)) fun v m1 N1 => WB g0 A (fun _ _ => False) h₀ L m1 N1 (pyIter v) fun it m2 N2 => ∃ I o N3, it = .ref I ∧ N2 = (I, o) :: N3 ∧ Yield g0 A T I lo (xs.map f) o ∧ J xs m2 N3)
    (hlo : ∀ r m N, J r m N → ∀ p ∈ lo, At h₀ N p.1 p.2)
    (turn : ∀ i r m N v, J (i :: r) m N → f i v → WB g0 A Et h₀ L (upd m x v) N (execs body (envX cn cs L a0 ccd cl)) (LoopP J r (fun m' N' => WB g0 A Eb h₀ L m' N' (execs rest (envX cn cs L a0 ccd cl)) Q) fun v => Q (.ret v)))
    (done : ∀ m N, J [] m N → WB g0 A Eb h₀ L m N (execs rest (envX cn cs L a0 ccd cl)) Q)
    (hE : ∀ e s', Et e s' → notedBy (model g0.prog g0.w) A (envX cn cs L a0 ccd cl) (cameBackBy (model g0.prog g0.w) A (envX cn cs L a0 ccd cl) Eb) e s')
    (hs : ∀ x, foldedSetIterable iter (envX cn cs L a0 ccd cl) x = pure x := by intro _; rfl) (hfk : (x == floorKey) = false := by decide) (hT : ∀ r m N, J r m N → T ≤ flo m := by intros; exact Nat.zero_le _) :
    WB g0 A Eb h₀ L m N (execs (.For (.Name x px) iter body [] pos :: rest) (envX cn cs L a0 ccd cl)) Q := by
  refine ex_forE lo (xs.map f) (fun Ps m N => ∃ r, Ps = r.map f ∧ J r m N) T hk hx (h.mono fun v m1 N1 q => q.mono fun it m2 N2 ⟨I, o, N3, a, b, c, d⟩ => ⟨I, o, N3, a, b, c, xs, rfl, d⟩) (fun Ps m N ⟨r, e, j⟩ => hlo r m N j) ?_ (fun m N ⟨r, e, j⟩ => ?_) hE hs hfk (fun Ps m N ⟨r, e, j⟩ => hT r m N j)
  · rintro P r m N v ⟨xs', e, j⟩ hP
    cases xs' with
    | nil => cases e
    | cons i r' =>
      rw [List.map_cons] at e
      obtain ⟨rfl, rfl⟩ := List.cons.inj e
      refine (turn i r' m N v j hP).mono fun f m' N' q => ?_
      cases f with
      | next => exact ⟨r', rfl, q⟩
      | cont => exact ⟨r', rfl, q⟩
      | brk => exact q
      | ret v => exact q
  · have : r = [] := by cases r with
      | nil => rfl
      | cons => cases e
    subst this
    exact done m N j
theorem ex_forX {ι : Type} {x : Str} {px pos : Pos} {iter : Expr} {body rest : List Stmt} {Q : Flow → Loc → Led → Prop} {cn : Str} {cs : Scope} {a0 : Addr} {ccd : Value} {cl : List (Str × Addr)} (lo : List (Addr × Obj)) (f : ι → Value → Prop) (xs : List ι) (J : List ι → Loc → Led → Prop) (T : Nat := 0)
    (hk : cs.kind = .function) (hx : cs.names.lookup x = some .local)
    (h : WB g0 A (fun _ _ => False) h₀ L m N (eval iter (envX cn cs L a0 ccd cl)) fun v m1 N1 => WB g0 A (fun _ _ => False) h₀ L m1 N1 (pyIter v) fun it m2 N2 => ∃ I o N3, it = .ref I ∧ N2 = (I, o) :: N3 ∧ Yield g0 A T I lo (xs.map f) o ∧ J xs m2 N3)
    (hlo : ∀ r m N, J r m N → ∀ p ∈ lo, At h₀ N p.1 p.2)
    (turn : ∀ i r m N v, J (i :: r) m N → f i v → WB g0 A (fun _ _ => False) h₀ L (upd m x v) N (execs body (envX cn cs L a0 ccd cl)) (LoopP J r (fun m' N' => WB g0 A (fun _ _ => False) h₀ L m' N' (execs rest (envX cn cs L a0 ccd cl)) Q) fun v => Q (.ret v)))
    (done : ∀ m N, J [] m N → WB g0 A (fun _ _ => False) h₀ L m N (execs rest (envX cn cs L a0 ccd cl)) Q)
    (hs : ∀ x, foldedSetIterable iter (envX cn cs L a0 ccd cl) x = pure x := by intro _; rfl) (hfk : (x == floorKey) = false := by decide) (hT : ∀ r m N, J r m N → T ≤ flo m := by intros; exact Nat.zero_le _) :
    WB g0 A (fun _ _ => False) h₀ L m N (execs (.For (.Name x px) iter body [] pos :: rest) (envX cn cs L a0 ccd cl)) Q :=
  ex_forXE lo f xs J T hk hx h hlo turn done (fun _ _ q => q.elim) hs hfk hT
theorem notCode_cls {o : Obj} (h : ∀ vs q t, o.data = .fields vs → vs[1]? ≠ some (.str q t)) : ¬ isCode o := fun ⟨vs, q, t, a, b⟩ => h vs q t a b
noncomputable def isV (v u : Value) : Prop := u = v
theorem mapP_get {n : Nat} {P : Nat → Value → Prop} {i : Nat} {X : Value → Prop} (e : ((List.range' 0 n).map P)[i]? = some X) : i < n ∧ X = P i := by
  rw [List.getElem?_map] at e
  by_cases h : i < n
  · rw [List.getElem?_range' h] at e
    simp at e
    exact ⟨h, e.symm⟩
  · rw [List.getElem?_eq_none (by simp; omega)] at e; cases e
theorem it_list {T : Nat} {l : Addr} {lo : Obj} {vs : List Value} {Q : Value → Loc → Led → Prop} (hh : A.handled = none) (hl : At h₀ N l lo) (ho : LO lo vs)
    (h : ∀ I o, Fresh h₀ L N I → Yield g0 A T I [(l, lo)] (vs.map isV) o → Q (.ref I) m ((I, o) :: N)) : WB g0 A E h₀ L m N (pyIter (.ref l)) Q := by
  refine WB.alloc (o := { cls := .type "list_iterator", data := .fields #[.ref l, .int 0 0] }) rfl (fun s Q' E' at_ q => wpAny_pyIter_list (ho.isList (at_ _ _ hl)) (q s.toks)) fun I hI => h I _ hI ?_
  have hne : l ≠ I := by
    rcases hl with hl | hl
    · exact Nat.ne_of_lt (Nat.lt_of_lt_of_le (Heap.lt_size hl) hI.ge)
    · exact Nat.ne_of_lt (hI.gt _ hl)
  refine Yield.mono (Yield.of (n := vs.toArray.size) (is := fun o => o.cls = .type "list_iterator" ∧ ∃ i : Int, o.data = .fields #[.ref l, .int i 0]) (Walks.list hh I l hne vs.toArray) (fun i h x => ?_) (fun o x => ?_) (fun b hb => ?_) vs.toArray.size 0 _ (by omega) ⟨rfl, 0, rfl⟩ fun h2 e2 el => ⟨⟨_, e2, rfl, rfl⟩, ho.isList (el (l, lo) (.head _))⟩) (by simp) fun i P P' e1 e2 v hv => ?_
  · obtain ⟨⟨o, e, c, d⟩, _⟩ := x; exact ⟨o, e, c, _, d⟩
  · refine anE2 x fun _ h_9 => exE1 h_9 fun i d => ?_
    clear h_9 x
    refine notCode_cls fun vs q t e => ?_
    rw [d] at e; cases e; simp
  · rcases List.mem_cons.mp hb with rfl | hb
    · exact .inl rfl
    · rw [List.mem_singleton.mp hb]; exact .inr ⟨lo, .head _⟩
  · obtain ⟨hi, rfl⟩ := mapP_get e1
    rw [List.getElem?_map] at e2
    have hv' : vs[i]? = some v := by simpa using hv
    rw [hv'] at e2
    simp at e2; rw [← e2]; rfl
theorem it_rev {T : Nat} {l : Addr} {lo : Obj} {vs : List Value} {Q : Value → Loc → Led → Prop} (hh : A.handled = none) (hl : At h₀ N l lo) (ho : LO lo vs)
    (h : ∀ I o, Fresh h₀ L N I → Yield g0 A T I [(l, lo)] (vs.reverse.map isV) o → (∀ (m' : Loc) (Q' : Value → Loc → Led → Prop), Q' (.ref I) m' ((I, o) :: N) → WB g0 A E h₀ L m' ((I, o) :: N) (pyIter (.ref I)) Q') → Q (.ref I) m ((I, o) :: N)) : WB g0 A E h₀ L m N (call (.type "reversed") [.ref l]) Q := by
  refine WB.alloc (o := revObj l ((vs.length : Int) - 1)) rfl (fun s Q' E' at_ q => call_reversed_list (ho.isList (at_ _ _ hl)) (by simpa using q s.toks)) fun I hI => ?_
  have hne : l ≠ I := by
    rcases hl with hl | hl
    · exact Nat.ne_of_lt (Nat.lt_of_lt_of_le (Heap.lt_size hl) hI.ge)
    · exact Nat.ne_of_lt (hI.gt _ hl)
  refine h I _ hI ?_ (fun m' Q' q => ⟨fun s x => wpAny_pyIter_revIter (l := l) (i := (vs.length : Int) - 1) ⟨_, x.at (.inr (.head _)), rfl, rfl⟩ ⟨m', _, x, .refl .., q⟩⟩)
  refine Yield.mono (Yield.of (n := vs.toArray.size) (is := fun o => ∃ i : Int, o.data = .fields #[.ref l, rawInt i]) (Walks.listRev hh I l hne vs.toArray) (fun i h x => ?_) (fun o x => ?_) (fun b hb => ?_) vs.toArray.size 0 _ (by omega) ⟨_, rfl⟩ fun h2 e2 el => ⟨by omega, ⟨_, e2, rfl, by simp [revObj]⟩, ho.isList (el (l, lo) (.head _))⟩) (by simp) fun i P P' e1 e2 v hv => ?_
  · obtain ⟨_, ⟨o, e, c, d⟩, _⟩ := x; exact ⟨o, e, _, d⟩
  · obtain ⟨i, d⟩ := x
    refine notCode_cls fun vs q t e => ?_
    rw [d] at e; cases e; simp [rawInt]
  · rcases List.mem_cons.mp hb with rfl | hb
    · exact .inl rfl
    · rw [List.mem_singleton.mp hb]; exact .inr ⟨lo, .head _⟩
  · obtain ⟨hi, rfl⟩ := mapP_get e1
    rw [List.getElem?_map] at e2
    have hi' : i < vs.length := by simpa using hi
    have hv' : vs[vs.length - 1 - i]? = some v := by simpa using hv
    rw [List.getElem?_reverse hi', hv'] at e2
    simp at e2; rw [← e2]; rfl
noncomputable def rngP (a : Int) (i : Nat) (v : Value) : Prop := ∃ t, v = .int (a + i) t
theorem it_rangeO {T : Nat} {r : Addr} {a b : Int} {t u v : Tok} {Q : Value → Loc → Led → Prop} (hh : A.handled = none) (hr : At h₀ N r { cls := .type "range", data := .fields #[.int a t, .int b u, .int 1 v] }) (ha : -(2 ^ 60) ≤ a) (ha' : a ≤ 2 ^ 60) (hb : -(2 ^ 60) ≤ b) (hb' : b ≤ 2 ^ 60)
    (h : ∀ I o, Fresh h₀ L N I → Yield g0 A T I [] ((List.range (b - a).toNat).map (rngP a)) o → Q (.ref I) m ((I, o) :: N)) : WB g0 A E h₀ L m N (pyIter (.ref r)) Q := by
  refine WB.alloc (o := { cls := .type "range_iterator", data := .fields #[rawInt a, rawInt (Builtin.Range.rangeSize a b 1), rawInt 1] }) rfl (fun s Q' E' at_ q => wpAny_pyIter_range (at_ _ _ hr) (small_one (by omega) (by omega) (by omega) (by omega)) (q s.toks)) fun I hI => h I _ hI ?_
  refine Yield.mono (Yield.of (n := (b - a).toNat) (is := fun o => ∃ x y z : Int, o.data = .fields #[rawInt x, rawInt y, rawInt z]) (Walks.range hh I a 1 (b - a).toNat) (fun i h x => ?_) (fun o x => ?_) (fun b hb => ?_) (b - a).toNat 0 _ (by omega) ⟨_, _, _, rfl⟩ fun h2 e2 el => ?_) (by simp) fun i P P' e1 e2 v hv => ?_
  · exact ⟨_, x, _, _, _, rfl⟩
  · refine exE3 x fun x y z d => ?_
    refine notCode_cls fun vs q t e => ?_
    rw [d] at e; cases e; simp [rawInt]
  · exact .inl (by simpa using hb)
  · show h2.get? I = some _
    rw [e2, rangeSize_nat]
    simp
  · obtain ⟨hi, rfl⟩ := mapP_get e1
    rw [List.getElem?_map, List.getElem?_range hi] at e2
    simp at e2; rw [← e2]
    obtain ⟨t, rfl⟩ := hv
    exact ⟨t, by simp⟩
theorem c_range1 {n : Int} {t : Tok} {Q : Value → Loc → Led → Prop} (h : ∀ r t u v, Fresh h₀ L N r → Q (.ref r) m ((r, { cls := .type "range", data := .fields #[.int 0 t, .int n u, .int 1 v] }) :: N)) : WB g0 A E h₀ L m N (call (.type "range") [.int n t]) Q :=
  WB.allocR (R := fun o => ∃ t u v, o = { cls := .type "range", data := .fields #[.int 0 t, .int n u, .int 1 v] }) (fun s Q' E' at_ q => call_range_1 (q _ _ ⟨_, _, _, rfl⟩ rfl)) fun a o ⟨t, u, v, e⟩ f => e ▸ h a t u v f
theorem c_range2 {a b : Int} {t u : Tok} {Q : Value → Loc → Led → Prop} (h : ∀ r t u v, Fresh h₀ L N r → Q (.ref r) m ((r, { cls := .type "range", data := .fields #[.int a t, .int b u, .int 1 v] }) :: N)) : WB g0 A E h₀ L m N (call (.type "range") [.int a t, .int b u]) Q :=
  WB.allocR (R := fun o => ∃ t u v, o = { cls := .type "range", data := .fields #[.int a t, .int b u, .int 1 v] }) (fun s Q' E' at_ q => call_range_2 (q _ _ ⟨_, _, _, rfl⟩ rfl)) fun a o ⟨t, u, v, e⟩ f => e ▸ h a t u v f
noncomputable def signT (T : Nat) (c : Nat) (v : Value) : Prop := ∃ u : Nat, v = .str ⟨#[c]⟩ u ∧ T ≤ u
theorem yield_str {T : Nat} {x : Str} {t : Tok} {I : Addr} (hh : A.handled = none) : ∀ (k i : Nat) (o : Obj), i + k = x.cps.size → o.cls = .type (strIterType x) → o.data = .fields #[.str x t, .int i 0] → Yield g0 A T I [] ((x.cps.toList.drop i).map (signT T)) o
  | 0, i, o, hi, hc, hd => by
    rw [List.drop_eq_nil_of_le (by simp; omega)]
    refine ⟨notCode_cls fun vs q t' e => by rw [hd] at e; cases e; simp, fun s Q E hI _ _ q => ?_⟩
    have hit : s.heap.IsStrIter I (strIterType x) x t i := ⟨o, hI, hc, hd⟩
    have hx : x.cps[i]? = none := Array.getElem?_eq_none (by omega)
    unfold strIterType at hit
    split at hit
    · exact wpAny_pyNext_ascii_end hh hit hx fun h' he => q h' s.toks fun b ob hb e => he b ob hb e
    · exact wpAny_pyNext_wide_end hh hit hx fun h' he => q h' s.toks fun b ob hb e => he b ob hb e
  | k + 1, i, o, hi, hc, hd => by
    have hx : x.cps[i]? = some (x.cps[i]'(by omega)) := Array.getElem?_eq_getElem (by omega)
    rw [List.drop_eq_getElem_cons (by simp; omega), List.map_cons]
    refine ⟨notCode_cls fun vs q t' e => by rw [hd] at e; cases e; simp, fun s Q E hI _ hT q => ?_⟩
    have hit : s.heap.IsStrIter I (strIterType x) x t i := ⟨o, hI, hc, hd⟩
    have fin : ∀ h', h'.IsStrIter I (strIterType x) x t (i + 1) → Heap.SameBut I s.heap h' → Q (some (.str ⟨#[x.cps[i]'(by omega)]⟩ s.toks)) { s with heap := h', toks := s.toks + 1 } := fun h' hn sb => by
      refine exE1 hn fun o' h_0 => anE3 h_0 fun e' c' d' => ?_
      clear h_0 hn
      exact q _ h' o' (s.toks + 1) ⟨s.toks, by simp, hT⟩ e' (yield_str hh k (i + 1) o' (by omega) c' (by simpa using d')) fun b ob hb e => sb.extBut b ob hb e
    revert hit fin
    unfold strIterType
    split
    · intro hit fin; exact wpAny_pyNext_ascii_item hit hx fin
    · intro hit fin; exact wpAny_pyNext_wide_item hit hx fin
theorem it_str {T : Nat} {x : Str} {t : Tok} {Q : Value → Loc → Led → Prop} (hh : A.handled = none)
    (h : ∀ I o, Fresh h₀ L N I → Yield g0 A T I [] (x.cps.toList.map (signT T)) o → Q (.ref I) m ((I, o) :: N)) : WB g0 A E h₀ L m N (pyIter (.str x t)) Q :=
  WB.alloc (o := { cls := .type (strIterType x), data := .fields #[.str x t, .int 0 0] }) rfl (fun s Q' E' at_ q => wpAny_pyIter_strU (q s.toks)) fun I hI => h I _ hI (yield_str hh x.cps.size 0 _ (by omega) rfl rfl)
end
end Mine

end

section
open PySem PySem.W PyProof.Rows
namespace Mine
open Builtin.Int (intBits)
section
variable {prog : Program} {w : World} {g0 : Cx} {mg mb : Loc}
noncomputable def D2 (g0 : Cx) (mg mb : Loc) (k : Nat) : Prop :=
  ∀ (A : Around) (E : Value → Shared → Prop) (s : Shared) (a b : Int) (n : Nat) (t u v : Tok), OkAt mg mb g0 s → Room A (2 * k + 2) → n ≤ 4000 * 2 ^ k → n ≤ 2 ^ 20 → 0 ≤ a → 2 ^ n ≤ 2 * b → b < 2 ^ n → a < b * 2 ^ n →
    wpAny (model g0.prog g0.w) A (call (.ref 38) [.int a t, .int b u, .int (n : Int) v]) (Back g0 s.heap (RDiv a b)) E s
noncomputable def D3 (g0 : Cx) (mg mb : Loc) (k : Nat) : Prop :=
  ∀ (A : Around) (E : Value → Shared → Prop) (s : Shared) (a12 a3 b b1 b2 : Int) (n : Nat) (t1 t2 t3 t4 t5 t6 : Tok), OkAt mg mb g0 s → Room A (2 * k + 3) → n ≤ 4000 * 2 ^ k → n ≤ 2 ^ 20 →
    b = b1 * 2 ^ n + b2 → 0 ≤ b2 → b2 < 2 ^ n → 2 ^ n ≤ 2 * b1 → b1 < 2 ^ n → 0 ≤ a3 → a3 < 2 ^ n → 0 ≤ a12 → a12 < b →
    wpAny (model g0.prog g0.w) A (call (.ref 45) [.int a12 t1, .int a3 t2, .int b t3, .int b1 t4, .int b2 t5, .int (n : Int) t6]) (Back g0 s.heap (RDiv (a12 * 2 ^ n + a3) b)) E s
end
namespace hd3_of_d2_c_b
noncomputable def st_ (g0 : Mine.Cx) (mg mb : Mine.Loc) (k : Nat) (A : PySem.Around) (s : PySem.Shared) (a12 a3 b b1 b2 : Int) (n : Nat) (t1 t2 t3 t4 t5 t6 : PySem.Tok) (L : PySem.Addr) : Prop := ∀ (H : D2 g0 mg mb k) (O : OkAt mg mb g0 s) (Ro : Room A (2 * k + 3)) (hn : n ≤ 4000 * 2 ^ k) (hn2 : n ≤ 2 ^ 20) (hb : b = b1 * 2 ^ n + b2) (hb20 : 0 ≤ b2) (hb2 : b2 < 2 ^ n) (hb1l : 2 ^ n ≤ 2 * b1) (hb1u : b1 < 2 ^ n) (ha30 : 0 ≤ a3) (ha3 : a3 < 2 ^ n) (ha0 : 0 ≤ a12) (hab : a12 < b), EntB g0 mg mb "_div3n2n" 44 4 (2 * k + 2) [(Str.ofString "a12", .int a12 t1), (Str.ofString "a3", .int a3 t2), (Str.ofString "b", .int b t3), (Str.ofString "b1", .int b1 t4), (Str.ofString "b2", .int b2 t5), (Str.ofString "n", .int (n : Int) t6)] ((RDiv (a12 * 2 ^ n + a3) b)) A s L
noncomputable abbrev T_ := ((((Mine.Cx × Mine.Loc) × (Mine.Loc × Nat)) × ((PySem.Around × PySem.Shared) × (Int × (Int × Int)))) × (((Int × Int) × (Nat × (PySem.Tok × PySem.Tok))) × ((PySem.Tok × PySem.Tok) × (PySem.Tok × (PySem.Tok × PySem.Addr)))))
theorem ne_ : Nonempty T_ := ⟨by repeat' (first | apply Prod.mk | exact default | exact nAr | exact nCx | exact nSh | constructor)⟩
noncomputable def Q_ (p : T_) : Prop := st_ p.1.1.1.1 p.1.1.1.2 p.1.1.2.1 p.1.1.2.2 p.1.2.1.1 p.1.2.1.2 p.1.2.2.1 p.1.2.2.2.1 p.1.2.2.2.2 p.2.1.1.1 p.2.1.1.2 p.2.1.2.1 p.2.1.2.2.1 p.2.1.2.2.2 p.2.2.1.1 p.2.2.1.2 p.2.2.2.1 p.2.2.2.2.1 p.2.2.2.2.2
noncomputable def w_ : T_ := @Classical.epsilon _ ne_ fun p => ¬ Q_ p
noncomputable def k := w_.1.1.2.2
noncomputable def a12 := w_.1.2.2.1
noncomputable def a3 := w_.1.2.2.2.1
noncomputable def b := w_.1.2.2.2.2
noncomputable def b1 := w_.2.1.1.1
noncomputable def b2 := w_.2.1.1.2
noncomputable def n := w_.2.1.2.1
noncomputable def t2 := w_.2.1.2.2.2
noncomputable def t3 := w_.2.2.1.1
noncomputable def t5 := w_.2.2.2.1
noncomputable def t6 := w_.2.2.2.2.1
theorem main_ : st_ w_.1.1.1.1 w_.1.1.1.2 w_.1.1.2.1 k w_.1.2.1.1 w_.1.2.1.2 a12 a3 b b1 b2 n w_.2.1.2.2.1 t2 t3 w_.2.2.1.2 t5 t6 w_.2.2.2.2.2 := by
  intro H O Ro hn hn2 hb hb20 hb2 hb1l hb1u ha30 ha3 ha0 hab
  intro hL G Rd
  refine WB.cm entry6 ?_
  show WB _ _ _ _ _ _ _ (execs (_ :: _ :: _ :: _ :: []) _) _
  have hP : (0 : Int) < 2 ^ n := p2pos n
  have hb1p : 0 < b1 := by omega
  have e2 : ((n : Int)).toNat = n := Int.toNat_natCast n
  have sum1 : a12 * 2 ^ n + a3 = a12 * 2 ^ n + a3 := rfl
  refine ex_ifJ (fun m' N' => ∃ (q r : Int) (kq kr : Tok), m' (Str.ofString "q") = some (.int q kq) ∧ m' (Str.ofString "r") = some (.int r kr) ∧ m' (Str.ofString "n") = some (.int (n : Int) t6) ∧ m' (Str.ofString "a3") = some (.int a3 t2) ∧
    m' (Str.ofString "b2") = some (.int b2 t5) ∧ m' (Str.ofString "b") = some (.int b t3) ∧ 0 ≤ q ∧ q < 2 ^ n ∧ 0 ≤ r ∧ r < b ∧ q * b1 + r = a12 ∧ r * 2 ^ n + a3 - q * b2 < b) ?_ ?_
  · repeat tb_rel
    repeat tb_rel
    refine i_shr (by omega) ?_
    intro _
    refine (Eq.symm e2) ▸ ?_
    repeat tb_rel
    refine (Eq.symm (shr_eq n ha0)) ▸ ?_
    by_cases hq : a12 / 2 ^ n = b1
    · rw [hq, beq_self_eq_true, if_pos rfl]
      refine ex_assign2S Rd.handled ks__div3n2n k__div3n2n_q k__div3n2n_r ?_
      refine e_tuple rfl ?_
      repeat tb_rel
      refine i_shl (by omega) (by exact shl_ok (Nat.le_of_eq bits1) (by omega)) ?_
      intro _
      refine (Eq.symm e2) ▸ ?_
      repeat tb_rel
      refine i_shl (by omega) (by exact shl_ok (bits_le (by omega) hb1u) (by omega)) ?_
      intro _
      refine (Eq.symm e2) ▸ ?_
      repeat tb_rel
      refine ⟨by simp, fun t ft => ⟨t, _, _, _, rfl, .inr (.head _), ?_⟩⟩
      refine ex_nil ⟨rfl, exI4 _ _ _ _ ⟨by kwd_inv, by kwd_inv, by kwd_inv, by kwd_inv, by kwd_inv, by kwd_inv, ?_⟩⟩
      exact d3_a hP hb hb20 hb1p ha30 ha3 hab hq
    · have hq' : (a12 / 2 ^ n == b1) = false := beq_eq_false_iff_ne.mpr hq
      refine if_f2 (hq') ?_
      refine ex_assign2 Rd.handled ks__div3n2n k__div3n2n_q k__div3n2n_r ?_
      refine e_callf G ks__div3n2n k__div3n2n__div2n1n (i := 3) (f := 37) (by decide) rfl ?_
      repeat tb_rel
      refine WB.callD (a := a12) (b := b1) G (fun s' O' _ => H _ _ _ a12 b1 n _ _ _ O' Rd hn hn2 ha0 hb1l hb1u (by exact d3_b hP hb hb2 hb1p ha0 hab hq)) ?_
      intro r kq kr new hm hfr
      refine tupI r _ _ _ (.inr (List.mem_append_left _ hm)) ?_
      refine ex_nil ⟨rfl, exI4 _ _ _ _ ⟨by kwd_inv, by kwd_inv, by kwd_inv, by kwd_inv, by kwd_inv, by kwd_inv, ?_⟩⟩
      exact d3_c hP hb hb20 hb1p ha30 ha3 ha0 (d3_b hP hb hb2 hb1p ha0 hab hq)
  · intro m' N' e_1
    refine exE4 e_1 fun q r kq kr h_1 => anE12 h_1 fun hmq hmr hmn hm3 hmb2 hmb hq0 hq1 hr0 hr1 hsum hlt => ?_
    clear h_1 e_1
    have hbr : intBits r ≤ 2 * n + 1 := bits_le hr0 (by
      have : (2:Int) ^ (2 * n + 1) = 2 * (2 ^ n * 2 ^ n) := by rw [show 2 * n + 1 = n + n + 1 by omega, p2succ, p2add]
      have m1 : (b1 + 1) * 2 ^ n ≤ 2 ^ n * 2 ^ n := Int.mul_le_mul_of_nonneg_right (by omega) (by omega)
      rw [Int.add_mul, Int.one_mul] at m1
      omega)
    refine ex_assignL ks__div3n2n k__div3n2n_r ?_
    repeat tb_rel
    refine i_shl (by omega) (by exact shl_ok hbr (by omega)) ?_
    intro _
    refine (Eq.symm e2) ▸ ?_
    repeat tb_rel
    refine (Eq.symm (or_shift hr0 ha30 ha3)) ▸ ?_
    repeat tb_rel
    refine i_mul (by exact mul_ok (m := n) (n := n) (bits_le hq0 hq1) (bits_le hb20 hb2) (by omega)) ?_
    intro _
    repeat tb_rel
    refine ex_while (fun k m N => ∃ (q r : Int) (kq kr : Tok), m (Str.ofString "q") = some (.int q kq) ∧ m (Str.ofString "r") = some (.int r kr) ∧ m (Str.ofString "b") = some (.int b t3) ∧ q * b + r = a12 * 2 ^ n + a3 ∧ r < b ∧ k = (-r).toNat) _
      ⟨q, r * 2 ^ n + a3 - q * b2, _, _, by kwd_inv, by kwd_inv, by kwd_inv, by exact d3_d hb hsum, hlt, rfl⟩ ?_
    intro k' m N e_2
    refine exE4 e_2 fun q r kq kr h_1 => anE6 h_1 fun hmq hmr hmb hs hl e_3 => ?_
    clear h_1 e_2
    subst e_3
    repeat tb_rel
    by_cases hr : r < 0
    · simp only [hr, decide_true, if_true]
      refine ex_augL ks__div3n2n k__div3n2n_q hmq ?_
      repeat tb_rel
      refine ex_augL ks__div3n2n k__div3n2n_r (by kwd_inv) ?_
      repeat tb_rel
      refine ex_nil ⟨(-(r + b)).toNat, by omega, exI4 (q - 1) (r + b) _ _ ⟨by kwd_inv, by kwd_inv, by kwd_inv, ?_, by omega, rfl⟩⟩
      rw [Int.sub_mul]; omega
    · simp only [hr, decide_false, Bool.false_eq_true, if_false]
      repeat tb_rel
      refine e_tuple rfl ?_
      repeat tb_rel
      refine ⟨by simp, fun t ft => ?_⟩
      have hu := divmod_uniq (by omega : 0 < b) hs.symm (by omega) hl
      exact exI3 t _ _ ⟨rfl, by rw [hu.1, hu.2]; exact .head _⟩
end hd3_of_d2_c_b
theorem d3_of_d2_c_b {g0 mg mb k A s a12 a3 b b1 b2 n t1 t2 t3 t4 t5 t6 L} : hd3_of_d2_c_b.st_ g0 mg mb k A s a12 a3 b b1 b2 n t1 t2 t3 t4 t5 t6 L := Mine.hk hd3_of_d2_c_b.ne_ (P := hd3_of_d2_c_b.Q_) hd3_of_d2_c_b.main_ ((((g0, mg), (mb, k)), ((A, s), (a12, (a3, b)))), (((b1, b2), (n, (t1, t2))), ((t3, t4), (t5, (t6, L)))))
section
variable {prog : Program} {w : World} {g0 : Cx} {mg mb : Loc}
theorem d3_of_d2_c {k : Nat} (H : D2 g0 mg mb k) {A : Around} {E : Value → Shared → Prop} {s : Shared} {a12 a3 b b1 b2 : Int} {n : Nat} {t1 t2 t3 t4 t5 t6 : Tok} (O : OkAt mg mb g0 s) (Ro : Room A (2 * k + 3)) (hn : n ≤ 4000 * 2 ^ k) (hn2 : n ≤ 2 ^ 20) (hb : b = b1 * 2 ^ n + b2) (hb20 : 0 ≤ b2) (hb2 : b2 < 2 ^ n) (hb1l : 2 ^ n ≤ 2 * b1) (hb1u : b1 < 2 ^ n) (ha30 : 0 ≤ a3) (ha3 : a3 < 2 ^ n) (ha0 : 0 ≤ a12) (hab : a12 < b) : wpAny (model g0.prog g0.w) A (call (.ref 45) [.int a12 t1, .int a3 t2, .int b t3, .int b1 t4, .int b2 t5, .int (n : Int) t6]) (Back g0 s.heap (RDiv (a12 * 2 ^ n + a3) b)) E s := by
  refine enter (name := "_div3n2n") (f := 44) (i := 4) (n := 2 * k + 2)
    (binds := [(Str.ofString "a12", .int a12 t1), (Str.ofString "a3", .int a3 t2), (Str.ofString "b", .int b t3), (Str.ofString "b1", .int b1 t4), (Str.ofString "b2", .int b2 t5), (Str.ofString "n", .int (n : Int) t6)])
    (by decide) O Ro (fun pm => by rfl) (by
    intro x hx
    simp only [List.mem_cons, List.not_mem_nil, or_false] at hx
    rcases hx with rfl | rfl | rfl | rfl | rfl | rfl
    · exact k__div3n2n_a12
    · exact k__div3n2n_a3
    · exact k__div3n2n_b
    · exact k__div3n2n_b1
    · exact k__div3n2n_b2
    · exact k__div3n2n_n) (by rfl) (by rfl) (by rfl) (by rfl) ?_
  intro L
  exact d3_of_d2_c_b H O Ro hn hn2 hb hb20 hb2 hb1l hb1u ha30 ha3 ha0 hab
theorem d3_of_d2 {k : Nat} (H : D2 g0 mg mb k) : D3 g0 mg mb k := fun _ _ _ _ _ _ _ _ _ _ _ _ _ _ _ O Ro hn hn2 hb hb20 hb2 hb1l hb1u ha30 ha3 ha0 hab => d3_of_d2_c H O Ro hn hn2 hb hb20 hb2 hb1l hb1u ha30 ha3 ha0 hab
end
end Mine

end

section
open PySem PySem.W PyProof.Rows
namespace Mine
open Builtin.Int (intBits)
section
variable {prog : Program} {w : World} {g0 : Cx} {mg mb : Loc}
end
namespace hd2_step_c_b
noncomputable def st_ (g0 : Mine.Cx) (mg mb : Mine.Loc) (A : PySem.Around) (s : PySem.Shared) (L : PySem.Addr) : Prop := ∀ {k : Nat} {a : Int} {b : Int} {n : Nat} {t : PySem.Tok} {u : PySem.Tok} {v : PySem.Tok} (H : ∀ j, k = j + 1 → D3 g0 mg mb j) (O : OkAt mg mb g0 s) (Ro : Room A (2 * k + 2)) (hn : n ≤ 4000 * 2 ^ k) (hn2 : n ≤ 2 ^ 20) (ha : 0 ≤ a) (hbl : 2 ^ n ≤ 2 * b) (hbu : b < 2 ^ n) (hab : a < b * 2 ^ n), EntB g0 mg mb "_div2n1n" 37 3 (2 * k + 1) [(Str.ofString "a", .int a t), (Str.ofString "b", .int b u), (Str.ofString "n", .int (n : Int) v)] ((RDiv a b)) A s L
noncomputable abbrev T_ := ((Mine.Cx × (Mine.Loc × Mine.Loc)) × (PySem.Around × (PySem.Shared × PySem.Addr)))
theorem ne_ : Nonempty T_ := ⟨by repeat' (first | apply Prod.mk | exact default | exact nAr | exact nCx | exact nSh | constructor)⟩
noncomputable def Q_ (p : T_) : Prop := st_ p.1.1 p.1.2.1 p.1.2.2 p.2.1 p.2.2.1 p.2.2.2
noncomputable def w_ : T_ := @Classical.epsilon _ ne_ fun p => ¬ Q_ p
noncomputable def A := w_.2.1
noncomputable def L := w_.2.2.2
theorem main_ : st_ w_.1.1 w_.1.2.1 w_.1.2.2 A w_.2.2.1 L := by
  intro k a b n t u v H O Ro hn hn2 ha hbl hbu hab
  intro hL G Rd
  refine WB.cm entry3 ?_
  have hP : (0 : Int) < 2 ^ n := p2pos n
  have hb0 : 0 < b := by omega
  have hbits : n ≤ intBits b := by
    cases n with
    | zero => omega
    | succ n => rw [p2succ] at hbl; exact bits_ge (by omega)
  refine via fun ξ κ=>?_
  obtain ⟨td, hdl⟩ := G.dl
  refine κ ?_;clear κ ξ
  show WB _ _ _ _ _ _ _ (execs (_ :: _ :: _ :: _ :: _ :: _ :: _ :: _ :: _ :: _ :: []) _) _
  refine ex_if ?_
  repeat tb_rel
  refine e_meth attrBase_name rfl rfl ?_
  repeat tb_rel
  intro pl
  refine g_bitlen ?_
  refine call_b1 rfl ?_
  repeat tb_rel
  refine c_bitlen ?_
  intro _
  repeat tb_rel
  refine glob_name G ks__div2n1n k__div2n1n__DIV_LIMIT hdl ?_
  repeat tb_rel
  by_cases hs : (intBits a : Int) - n ≤ 4000
  · simp only [hs, decide_true, if_true, List.cons_append, List.nil_append]
    repeat tb_rel
    refine e_callb G ks__div2n1n k__div2n1n_divmod (id := "divmod") (by simp [biTable]) rfl ?_
    repeat tb_rel
    refine c_divmod (Int.ne_of_gt hb0) (noPy (by omega)) ?_
    intro r k k' fr
    refine ⟨r, k, k', rfl, ?_⟩
    rw [fdiv_pos hb0, fmod_pos hb0]
    exact .head _
  · simp only [hs, decide_false, Bool.false_eq_true, if_false, List.nil_append]
    have habits : intBits a ≤ 2 * n := bits_le ha (by
      have : (2:Int) ^ (2 * n) = 2 ^ n * 2 ^ n := by rw [show 2 * n = n + n by omega, p2add]
      have m1 : b * 2 ^ n ≤ 2 ^ n * 2 ^ n := Int.mul_le_mul_of_nonneg_right (by omega) (by omega)
      omega)
    have hk : ∃ j, k = j + 1 := by
      cases k with
      | zero => simp at hn; omega
      | succ j => exact ⟨j, rfl⟩
    refine via fun ξ κ=>?_
    obtain ⟨j, e_1⟩ := hk
    refine κ ?_;clear κ ξ
    subst e_1
    have H3 := H j rfl
    have hp2 : n % 2 = 0 ∨ n % 2 = 1 := by omega
    refine via fun ξ κ=>?_
    obtain ⟨h, hh⟩ : ∃ h, n + n % 2 = 2 * h := ⟨(n + n % 2) / 2, by omega⟩
    refine κ ?_;clear κ ξ
    have hnj : h ≤ 4000 * 2 ^ j := by rw [Nat.pow_succ] at hn; omega
    have hPh : (0 : Int) < 2 ^ h := p2pos h
    have e1 : ((1 : Int)).toNat = 1 := rfl
    have eh : ((h : Int)).toNat = h := Int.toNat_natCast h
    refine ex_assignL ks__div2n1n k__div2n1n_pad ?_
    repeat tb_rel
    rw [bitAnd_m1]
    refine ex_ifJ (fun m' N' => ∃ (a' b' n' : Int) (ka kb kn kp : Tok), m' (Str.ofString "a") = some (.int a' ka) ∧ m' (Str.ofString "b") = some (.int b' kb) ∧ m' (Str.ofString "n") = some (.int n' kn) ∧ m' (Str.ofString "pad") = some (.int ((n : Int) % 2) kp) ∧
      n' = 2 * (h : Int) ∧ a' = a * 2 ^ (n % 2) ∧ b' = b * 2 ^ (n % 2)) ?_ ?_
    · refine t_name ?_
      repeat tb_rel
      rcases hp2 with hp | hp
      · have e0 : ((n : Int) % 2 != 0) = false := by rw [show (n : Int) % 2 = 0 by omega]; rfl
        rw [e0, if_neg (by decide)]
        exact ex_nil ⟨rfl, exI7 a b _ _ _ _ _ ⟨by kwd_inv, by kwd_inv, by kwd_inv, by kwd_inv, by omega, by rw [hp]; omega, by rw [hp]; omega⟩⟩
      · have e0 : ((n : Int) % 2 != 0) = true := by rw [show (n : Int) % 2 = 1 by omega]; rfl
        rw [e0, if_pos rfl]
        refine ex_augL ks__div2n1n k__div2n1n_a (by kwd_inv) ?_
        repeat tb_rel
        refine i_ishl (by omega) (shl_ok (n := 1) habits (by omega)) ?_
        intro _
        refine ex_augL ks__div2n1n k__div2n1n_b (by kwd_inv) ?_
        repeat tb_rel
        refine i_ishl (by omega) (shl_ok (n := 1) (bits_le (by omega) hbu) (by omega)) ?_
        intro _
        refine ex_augL ks__div2n1n k__div2n1n_n (by kwd_inv) ?_
        repeat tb_rel
        exact ex_nil ⟨rfl, exI7 _ _ _ _ _ _ _ ⟨by kwd_inv, by kwd_inv, by kwd_inv, by kwd_inv, by omega, by rw [hp, e1], by rw [hp, e1]⟩⟩
    · intro m' N' e_2
      refine exE7 e_2 fun a' b' n' ka kb kn kp h_1 => anE7 h_1 fun hma hmb hmn hmp e_3 ea eb => ?_
      clear h_1 e_2
      subst e_3
      have hc : (0 : Int) < 2 ^ (n % 2) := p2pos _
      have hc2 : (2 : Int) ^ (2 * h) = 2 ^ n * 2 ^ (n % 2) := by rw [← hh, p2add]
      have hpp : (2 : Int) ^ (2 * h) = 2 ^ h * 2 ^ h := by rw [show 2 * h = h + h by omega, p2add]
      have ha' : 0 ≤ a' := by rw [ea]; exact Int.mul_nonneg ha (by omega)
      have hb' : 0 < b' := by rw [eb]; exact Int.mul_pos hb0 hc
      have hbl' : 2 ^ h * 2 ^ h ≤ 2 * b' := by
        rw [← hpp, hc2, eb, ← Int.mul_assoc]; exact Int.mul_le_mul_of_nonneg_right hbl (by omega)
      have hbu' : b' < 2 ^ h * 2 ^ h := by
        rw [← hpp, hc2, eb]; exact Int.mul_lt_mul_of_pos_right hbu hc
      have hab' : a' < b' * (2 ^ h * 2 ^ h) := by
        rw [← hpp, hc2, eb, ea]
        have m1 : a * 2 ^ (n % 2) < b * 2 ^ n * 2 ^ (n % 2) := Int.mul_lt_mul_of_pos_right hab hc
        have m2 : b * 2 ^ n * 2 ^ (n % 2) * 1 ≤ b * 2 ^ n * 2 ^ (n % 2) * 2 ^ (n % 2) := Int.mul_le_mul_of_nonneg_left (by omega) (Int.mul_nonneg (Int.mul_nonneg (by omega) (by omega)) (by omega))
        have m3 : b * 2 ^ (n % 2) * (2 ^ n * 2 ^ (n % 2)) = b * 2 ^ n * 2 ^ (n % 2) * 2 ^ (n % 2) := by
          simp only [Int.mul_assoc, Int.mul_comm, Int.mul_left_comm]
        omega
      have hca : intBits a' ≤ 2 * n + 2 := by
        rw [ea]; exact Nat.le_trans (intBits_mul_le habits (bits_le (n := 2) (by omega) (by rcases hp2 with hp | hp <;> rw [hp] <;> decide))) (by omega)
      have en : ((2 * (h : Int))).toNat = h + h := by omega
      have eP2 : (2 : Int) ^ (h + h) = 2 ^ h * 2 ^ h := p2add h h
      generalize hPd : (2 : Int) ^ h = P at *
      refine ex_assignL ks__div2n1n k__div2n1n_half_n ?_
      repeat tb_rel
      refine i_shr (by omega) ?_
      intro _
      rw [e1, show (2 * (h : Int)).fdiv (2 ^ 1) = (h : Int) by rw [Int.fdiv_eq_ediv_of_nonneg _ (by decide)]; omega]
      refine ex_assignL ks__div2n1n k__div2n1n_mask ?_
      repeat tb_rel
      refine i_shl (by omega) (shl_ok (Nat.le_of_eq bits1) (by omega)) ?_
      intro _
      rw [eh, hPd, Int.one_mul]
      repeat tb_rel
      refine ex_assign2S Rd.handled ks__div2n1n k__div2n1n_b1 k__div2n1n_b2 ?_
      refine e_tuple rfl ?_
      repeat tb_rel
      refine i_shr (by omega) ?_
      intro _
      rw [eh, hPd, fdiv_pos hPh]
      repeat tb_rel
      refine (Eq.symm (show Builtin.bitAnd b' (P - 1) = b' % P by rw [← hPd, kbt_mask])) ▸ ?_
      refine ⟨by simp, fun t1 ft1 => ⟨t1, _, _, _, rfl, .inr (.head _), ?_⟩⟩
      have hdm := ediv_mod b' P
      have hm0 := Int.emod_nonneg b' (Int.ne_of_gt hPh)
      have hm1 := Int.emod_lt_of_pos b' hPh
      have hb1l : P ≤ 2 * (b' / P) := by
        have eP : P = 2 * 2 ^ (h - 1) := by rw [← hPd, ← p2succ, show h - 1 + 1 = h by omega]
        have m1 : 2 ^ (h - 1) * P ≤ b' := by
          have : P * P = 2 * (2 ^ (h - 1) * P) := by rw [← Int.mul_assoc, ← eP]
          omega
        have := (Int.le_ediv_iff_mul_le hPh).mpr m1
        omega
      have hb1u : b' / P < P := Int.ediv_lt_of_lt_mul hPh hbu'
      have hA : a' / (P * P) < b' := Int.ediv_lt_of_lt_mul (Int.mul_pos hPh hPh) hab'
      refine ex_assign2 Rd.handled ks__div2n1n k__div2n1n_q1 k__div2n1n_r ?_
      refine e_callf G ks__div2n1n k__div2n1n__div3n2n (i := 4) (f := 44) (by decide) rfl ?_
      repeat tb_rel
      refine i_shr (by omega) ?_
      intro _
      rw [en, eP2, fdiv_pos (Int.mul_pos hPh hPh)]
      repeat tb_rel
      refine i_shr (by omega) ?_
      intro _
      rw [eh, hPd, fdiv_pos hPh]
      repeat tb_rel
      refine (Eq.symm (show Builtin.bitAnd (a' / P) (P - 1) = a' / P % P by rw [← hPd, kbt_mask])) ▸ ?_
      repeat tb_rel
      have hS := halves hPh ha'
      refine WB.callD (a := (a' / (P * P) * P + a' / P % P)) (b := b') G (fun s' O' _ => ?_) ?_
      · have := H3 (A.deeper (envX (Str.ofString "_div2n1n") (scopeOf 3) L (37 + 1) (.ref 37) [])) (fun _ _ => False) s' (a' / (P * P)) (a' / P % P) b' (b' / P) (b' % P) h
        rw [hPd] at this
        exact this _ _ _ _ _ _ O' (by exact Rd) hnj (by omega) hdm hm0 hm1 hb1l hb1u (Int.emod_nonneg _ (Int.ne_of_gt hPh)) (Int.emod_lt_of_pos _ hPh) (Int.ediv_nonneg ha' (by omega)) hA
      intro r1 kq1 kr1 new1 hm1' hfr1
      rw [hS] at hm1'
      refine tupI r1 _ _ _ (.inr (List.mem_append_left _ hm1')) ?_
      refine ex_assign2 Rd.handled ks__div2n1n k__div2n1n_q2 k__div2n1n_r ?_
      refine e_callf G ks__div2n1n k__div2n1n__div3n2n (i := 4) (f := 44) (by decide) rfl ?_
      repeat tb_rel
      refine (Eq.symm (show Builtin.bitAnd a' (P - 1) = a' % P by rw [← hPd, kbt_mask])) ▸ ?_
      repeat tb_rel
      have hR0 := Int.emod_nonneg (a' / P) (Int.ne_of_gt hb')
      have hR1 := Int.emod_lt_of_pos (a' / P) hb'
      have hx0 := Int.emod_nonneg a' (Int.ne_of_gt hPh)
      have hx1 := Int.emod_lt_of_pos a' hPh
      refine WB.callD (a := (a' / P % b' * P + a' % P)) (b := b') G (fun s' O' _ => ?_) ?_
      · have := H3 (A.deeper (envX (Str.ofString "_div2n1n") (scopeOf 3) L (37 + 1) (.ref 37) [])) (fun _ _ => False) s' (a' / P % b') (a' % P) b' (b' / P) (b' % P) h
        rw [hPd] at this
        exact this _ _ _ _ _ _ O' (by exact Rd) hnj (by omega) hdm hm0 hm1 hb1l hb1u hx0 hx1 hR0 hR1
      intro r2 kq2 kr2 new2 hm2' hfr2
      refine tupI r2 _ _ _ (.inr (List.mem_append_left _ hm2')) ?_
      have hT : a' / P % b' * P + a' % P < b' * P := by
        have m1 : (a' / P % b' + 1) * P ≤ b' * P := Int.mul_le_mul_of_nonneg_right (by omega) (by omega)
        rw [Int.add_mul, Int.one_mul] at m1
        omega
      have hq2 : (a' / P % b' * P + a' % P) / b' < P := quot_lt hb' hT
      have hT0 : 0 ≤ a' / P % b' * P + a' % P := by have := Int.mul_nonneg hR0 (Int.le_of_lt hPh); omega
      have hq20 : 0 ≤ (a' / P % b' * P + a' % P) / b' := Int.ediv_nonneg hT0 (by omega)
      have hQ0 : 0 ≤ a' / P / b' := Int.ediv_nonneg (Int.ediv_nonneg ha' (by omega)) (by omega)
      have hQ1 : a' / P / b' < P := quot_lt hb' (Int.ediv_lt_of_lt_mul hPh (by rw [Int.mul_assoc]; exact hab'))
      have fin := divmod_uniq hb' (d2_a (ediv_mod a' P) (ediv_mod (a' / P) b') (ediv_mod (a' / P % b' * P + a' % P) b')) (Int.emod_nonneg _ (Int.ne_of_gt hb')) (Int.emod_lt_of_pos _ hb')
      generalize hq2d : (a' / P % b' * P + a' % P) / b' = q2 at *
      generalize hr2d : (a' / P % b' * P + a' % P) % b' = r2' at *
      generalize hQd : a' / P / b' = Q1 at *
      refine ex_ifJ (fun m' N' => ∃ (kq kq' kh kr : Tok), m' (Str.ofString "q1") = some (.int Q1 kq) ∧ m' (Str.ofString "q2") = some (.int q2 kq') ∧ m' (Str.ofString "half_n") = some (.int (h : Int) kh) ∧ m' (Str.ofString "r") = some (.int (a % b) kr)) ?_ ?_
      · refine t_name ?_
        repeat tb_rel
        have hr : r2' = a % b * 2 ^ (n % 2) := by
          rw [← fin.2, ea, eb, Int.mul_comm a, Int.mul_comm b, Int.mul_emod_mul_of_pos _ _ hc, Int.mul_comm]
        rcases hp2 with hp | hp
        · have e0 : ((n : Int) % 2 != 0) = false := by rw [show (n : Int) % 2 = 0 by omega]; rfl
          refine if_f2 (e0) ?_
          rw [hp] at hr
          rw [show r2' = a % b by omega]
          exact ex_nil ⟨rfl, exI4 _ _ _ _ ⟨by kwd_inv, by kwd_inv, by kwd_inv, by kwd_inv⟩⟩
        · have e0 : ((n : Int) % 2 != 0) = true := by rw [show (n : Int) % 2 = 1 by omega]; rfl
          rw [e0, if_pos rfl]
          refine ex_augL ks__div2n1n k__div2n1n_r (by kwd_inv) ?_
          repeat tb_rel
          refine i_ishr (by omega) ?_
          intro _
          rw [hp] at hr
          rw [e1, show r2'.fdiv (2 ^ 1) = a % b by rw [Int.fdiv_eq_ediv_of_nonneg _ (by decide)]; omega]
          exact ex_nil ⟨rfl, exI4 _ _ _ _ ⟨by kwd_inv, by kwd_inv, by kwd_inv, by kwd_inv⟩⟩
      · intro m'' N'' e_4
        refine exE4 e_4 fun kq kq' kh kr h_1 => anE4 h_1 fun h1 h2 h3 h4 => ?_
        clear h_1 e_4
        repeat tb_rel
        refine e_tuple rfl ?_
        repeat tb_rel
        refine i_shl (by omega) (shl_ok (bits_le (n := h) hQ0 (by rw [hPd]; exact hQ1)) (by omega)) ?_
        intro _
        repeat tb_rel
        rw [eh, or_shift hQ0 hq20 (by rw [hPd]; exact hq2), hPd]
        have hq : a / b = Q1 * P + q2 := by
          rw [← fin.1, ea, eb, Int.mul_ediv_mul_of_pos_left _ _ hc]
        exact ⟨by simp, fun t ft => ⟨t, _, _, rfl, by rw [hq]; exact .head _⟩⟩
end hd2_step_c_b
theorem d2_step_c_b {g0 mg mb A s L} : hd2_step_c_b.st_ g0 mg mb A s L := Mine.hk hd2_step_c_b.ne_ (P := hd2_step_c_b.Q_) hd2_step_c_b.main_ ((g0, (mg, mb)), (A, (s, L)))
section
variable {prog : Program} {w : World} {g0 : Cx} {mg mb : Loc}
theorem d2_step_c {k : Nat} (H : ∀ j, k = j + 1 → D3 g0 mg mb j) {A : Around} {E : Value → Shared → Prop} {s : Shared} {a b : Int} {n : Nat} {t u v : Tok} (O : OkAt mg mb g0 s) (Ro : Room A (2 * k + 2)) (hn : n ≤ 4000 * 2 ^ k) (hn2 : n ≤ 2 ^ 20) (ha : 0 ≤ a) (hbl : 2 ^ n ≤ 2 * b) (hbu : b < 2 ^ n) (hab : a < b * 2 ^ n) : wpAny (model g0.prog g0.w) A (call (.ref 38) [.int a t, .int b u, .int (n : Int) v]) (Back g0 s.heap (RDiv a b)) E s := by
  refine enter (name := "_div2n1n") (f := 37) (i := 3) (n := 2 * k + 1)
    (binds := [(Str.ofString "a", .int a t), (Str.ofString "b", .int b u), (Str.ofString "n", .int (n : Int) v)])
    (by decide) O Ro (fun pm => by rfl) (by
    intro x hx
    simp only [List.mem_cons, List.not_mem_nil, or_false] at hx
    rcases hx with rfl | rfl | rfl
    · exact k__div2n1n_a
    · exact k__div2n1n_b
    · exact k__div2n1n_n) (by rfl) (by rfl) (by rfl) (by rfl) ?_
  intro L
  exact d2_step_c_b H O Ro hn hn2 ha hbl hbu hab
theorem d2_step {k : Nat} (H : ∀ j, k = j + 1 → D3 g0 mg mb j) : D2 g0 mg mb k := fun _ _ _ _ _ _ _ _ _ O Ro hn hn2 ha hbl hbu hab => d2_step_c H O Ro hn hn2 ha hbl hbu hab
theorem d2_all : ∀ k, D2 g0 mg mb k
  | 0 => d2_step fun j h => by cases h
  | k + 1 => d2_step fun j h => by cases h; exact d3_of_d2 (d2_all k)
end
end Mine

end

section
open PySem PySem.W PyProof.Rows
namespace Mine
open Builtin.Int (intBits)
noncomputable def LX (o : Obj) (vs : List Value) : Prop := ∃ n, o = lstObj vs n
theorem LX.lp {o : Obj} {vs : List Value} (x : LX o vs) : LP o vs := by obtain ⟨n, rfl⟩ := x; exact LP.of vs n
theorem LX.lo {o : Obj} {vs : List Value} (x : LX o vs) : LO o vs := x.lp.lo
section
variable {α β : Type} {prog : Program} {w : World} {g0 : Cx} {mg mb : Loc} {A : Around} {E : Value → Shared → Prop} {h₀ : Heap} {L : Addr} {m : Loc} {N : Led} {env : Env}
theorem call_t {pos : Pos} {id : String} {first : List Value} {es : List Expr} {Q : Value → Loc → Led → Prop} (hp : es.all plainArg = true)
    (h : argsWB g0 A E h₀ L env es (fun vs m' N' => WB g0 A E h₀ L m' N' (call (.type id) (first ++ vs)) Q) m N) :
    WB g0 A E h₀ L m N (callWith pos (.type id) first (backTo pos (starEach es env)) []) Q := by
  unfold callWith
  refine WB.bind (WB.holding ((evalArgs_of (Q := fun a m' N' => WB g0 A E h₀ L m' N' (call (.type id) (first ++ a.pos) a.kw) Q) hp h).mono fun a m' N' q => WB.at_ ?_))
  simp only [plain_any hp, List.any_nil, Bool.or_false]
  refine WB.bpure ?_
  exact WB.bind (q.mono fun r m'' N'' q' => WB.bind (WB.holding (WB.point (WB.pure q'))))
theorem e_callt {cn : Str} {cs : Scope} {a0 : Addr} {ccd : Value} {cl : List (Str × Addr)} {x id : String} {p pos : Pos} {es : List Expr} {Q : Value → Loc → Led → Prop} (G : Gd mg mb h₀) (hk : cs.kind = .function) (hx : cs.names.lookup (Str.ofString x) = some .globalImplicit) (hb : (x, .type id) ∈ biTable) (hp : es.all plainArg = true)
    (h : argsWB g0 A E h₀ L (envX cn cs L a0 ccd cl) es (fun vs m' N' => WB g0 A E h₀ L m' N' (call (.type id) vs) Q) m N)
    (hd : ((Str.ofString x) == ("__debug__" : Str)) = false := by decide) : WB g0 A E h₀ L m N (eval (.Call (.Name (Str.ofString x) p) es [] pos) (envX cn cs L a0 ccd cl)) Q :=
  e_call_name (bi_name G hk hx hb (call_t hp h) hd)
theorem g_lst {l : Addr} {lo : Obj} {vs : List Value} {name : Str} {id : String} {pl : Sem Bool} {Q : Value × List Value → Loc → Led → Prop} (slot : Slot "list" name id) (hty : typeOf (.builtin id) = pure (.type "method_descriptor")) (hl : At h₀ N l lo) (ho : LX lo vs) (h : Q (.builtin id, [.ref l]) m N) :
    WB g0 A E h₀ L m N (getMethod (.ref l) name pl) Q :=
  WB.stillR (fun s Q' E' at_ q => getMethod_list_of slot hty (ho.lo.isList (at_ _ _ hl)) (by obtain ⟨n, e⟩ := ho; have := at_ _ _ hl; rw [e] at this; exact ⟨_, this, rfl⟩) (q s.toks)) h
theorem c_append {l : Addr} {lo : Obj} {vs : List Value} {v : Value} {Q : Value → Loc → Led → Prop} (hl : (l, lo) ∈ N) (ho : LX lo vs) (hz : vs.length ≤ 1000000)
    (h : ∀ o' N', LX o' (vs ++ [v]) → Holds N N' l lo → (l, o') ∈ N' → Q .none m N') : WB g0 A E h₀ L m N (call (.builtin "list.append") [.ref l, v]) Q := by
  refine WB.change (R := fun r o' => r = .none ∧ LX o' (vs ++ [v])) hl ho.lo.notCode (fun s Q' E' at_ q => ?_) (fun a o' N' r1 r2 r3 => by obtain ⟨rfl, r1⟩ := r1; exact h o' N' r1 r2 r3)
  refine exE1 ho fun n e => ?_
  clear ho
  have hg := at_ _ _ (.inr hl)
  rw [e] at hg
  refine wpAny_call_entry slot_list_append ⟨_, hg, rfl⟩ entry_list_append ?_ (args_list_append _ _)
  show wpAny _ _ (updateSeq l (·.push v) >>= fun _ => ret .none) _ _ s
  refine wpAny_bind ?_
  refine wpAny_updateSeq hg rfl (wpAny_pure ⟨.none, rfl, q .none _ _ s.toks (Heap.SameBut.update ..) (Heap.get?_update_self _ hg rfl) ⟨rfl, n + 1, ?_⟩⟩) (by simp; rw [sizeLine_eq]; omega)
  simp [Obj.mapSeq, lstObj]
theorem c_reverse {l : Addr} {lo : Obj} {vs : List Value} {Q : Value → Loc → Led → Prop} (hl : (l, lo) ∈ N) (ho : LX lo vs) (hz : vs.length ≤ 1000000)
    (h : ∀ o' N', LX o' vs.reverse → Holds N N' l lo → (l, o') ∈ N' → Q .none m N') : WB g0 A E h₀ L m N (call (.builtin "list.reverse") [.ref l]) Q := by
  refine WB.change (R := fun r o' => r = .none ∧ LX o' vs.reverse) hl ho.lo.notCode (fun s Q' E' at_ q => ?_) (fun a o' N' r1 r2 r3 => by obtain ⟨rfl, r1⟩ := r1; exact h o' N' r1 r2 r3)
  refine exE1 ho fun n e => ?_
  clear ho
  have hg := at_ _ _ (.inr hl)
  rw [e] at hg
  refine call_meets F.slot_list_reverse ⟨_, hg, rfl⟩ F.entry_list_reverse (F.args_list_reverse_1 _) (AutoSeq1.list_reverse_list_0 l _ n (by simp; rw [sizeLine_eq]; omega)) ⟨hg, ?_⟩
  refine q .none _ _ s.toks (Heap.SameBut.update ..) (Heap.get?_update_self _ hg rfl) ⟨rfl, n, ?_⟩
  simp [Obj.mapSeq, lstObj]
theorem Holds.get {N N' : Led} {d : Addr} {o : Obj} (h : Holds N N' d o) {p : Addr × Obj} (hp : p ∈ N) (hne : p.2 ≠ o) : p ∈ N' := (h p hp).resolve_left (fun e => hne (by rw [e]))
theorem undig_cons (n : Nat) (x : Int) (xs : List Int) : undig n (x :: xs) = x + 2 ^ n * undig n xs := rfl
end
namespace hdivmod_pos_b
noncomputable def st_ (g0 : Mine.Cx) (mg mb : Mine.Loc) (A : PySem.Around) (s : PySem.Shared) (a b : Int) (t u : PySem.Tok) (L : PySem.Addr) : Prop := ∀ (O : OkAt mg mb g0 s) (Ro : Room A 24) (ha : 0 ≤ a) (hb : 0 < b) (hab : intBits a ≤ 2 ^ 16) (hbb : intBits b ≤ 2 ^ 14), EntB g0 mg mb "_divmod_pos" 65 7 (23) [(Str.ofString "a", .int a t), (Str.ofString "b", .int b u)] ((RDiv a b)) A s L
noncomputable abbrev T_ := (((Mine.Cx × Mine.Loc) × (Mine.Loc × (PySem.Around × PySem.Shared))) × ((Int × Int) × (PySem.Tok × (PySem.Tok × PySem.Addr))))
theorem ne_ : Nonempty T_ := ⟨by repeat' (first | apply Prod.mk | exact default | exact nAr | exact nCx | exact nSh | constructor)⟩
noncomputable def Q_ (p : T_) : Prop := st_ p.1.1.1 p.1.1.2 p.1.2.1 p.1.2.2.1 p.1.2.2.2 p.2.1.1 p.2.1.2 p.2.2.1 p.2.2.2.1 p.2.2.2.2
noncomputable def w_ : T_ := @Classical.epsilon _ ne_ fun p => ¬ Q_ p
noncomputable def a := w_.2.1.1
noncomputable def b := w_.2.1.2
noncomputable def u := w_.2.2.2.1
theorem main_ : st_ w_.1.1.1 w_.1.1.2 w_.1.2.1 w_.1.2.2.1 w_.1.2.2.2 a b w_.2.2.1 u w_.2.2.2.2 := by
  intro O Ro ha hb hab hbb
  intro hL G Rd
  refine WB.cm entry2 ?_
  show WB _ _ _ _ _ _ _ (execs (_ :: _ :: _ :: _ :: _ :: _ :: _ :: _ :: []) _) _
  have p16 : (2 : Nat) ^ 16 = 65536 := by decide
  have p14 : (2 : Nat) ^ 14 = 16384 := by decide
  refine exE1 (bits_low hb) fun n' h_0 => anE2 h_0 fun hn' hlow => ?_
  clear h_0
  generalize hn : intBits b = n at *
  have hbu : b < 2 ^ n := lt_of_bits (Nat.le_of_eq hn)
  have hbl : 2 ^ n ≤ 2 * b := by rw [hn', p2succ]; omega
  have n1 : 1 ≤ n := by omega
  have hP := p2pos n
  refine ex_assignL ks__divmod_pos k__divmod_pos_n ?_
  refine e_meth attrBase_name rfl rfl ?_
  repeat tb_rel
  intro pl
  refine g_bitlen ?_
  refine call_b1 rfl ?_
  repeat tb_rel
  refine c_bitlen ?_
  intro _
  refine (Eq.symm hn) ▸ ?_
  refine ex_assignL ks__divmod_pos k__divmod_pos_a_digits ?_
  refine e_callf G ks__divmod_pos k__divmod_pos__int2digits (i := 5) (f := 51) (by decide) rfl ?_
  repeat tb_rel
  refine WB.callS (R := fun v new => ∃ dl o vs, v = .ref dl ∧ (dl, o) ∈ new ∧ LO o vs ∧ Ints vs (digits n a ((intBits a + n - 1) / n))) G (fun s' O' _ => int2digits O' (Rd.le (by omega)) ha n1 hab (by omega)) ?_
  intro v new e_1 _
  refine exE3 e_1 fun al ao avs h_0 => anE4 h_0 fun e_2 hal hao hI => ?_
  clear h_0 e_1
  subst e_2
  generalize hK : (intBits a + n - 1) / n = K at *
  have hK1 : n * K ≤ intBits a + n - 1 := by rw [← hK]; exact Nat.mul_div_le _ _
  have hK2 : intBits a ≤ n * K := by
    have := Nat.div_add_mod (intBits a + n - 1) n
    have := Nat.mod_lt (intBits a + n - 1) (show n > 0 by omega)
    rw [hK] at *
    omega
  have hKn : K ≤ n * K := Nat.le_mul_of_pos_left K (by omega)
  rw [p16] at hab
  rw [p14] at hbb
  have hxs : undig n (digits n a K) = a := undig_digits n K a ha (lt_of_bits hK2)
  have hxd := digits_lt n K a
  have hxl := digits_length n K a
  generalize digits n a K = xs at *
  refine ex_assignL ks__divmod_pos k__divmod_pos_r ?_
  repeat tb_rel
  refine ex_assignL ks__divmod_pos k__divmod_pos_q_digits ?_
  refine e_list rfl ?_
  refine args_nil ⟨by simp, fun ql fql => ?_⟩
  refine ex_forX [(al, ao)] isV avs.reverse (fun r m N => ∃ (rs ds qs : List Int) (R : Int) (kr kn : Tok) (ql : Addr) (qo : Obj) (ws : List Value), xs = rs ++ ds ∧ Ints r.reverse rs ∧ m (Str.ofString "r") = some (.int R kr) ∧ 0 ≤ R ∧ R < b ∧
    m (Str.ofString "q_digits") = some (.ref ql) ∧ (ql, qo) ∈ N ∧ LX qo ws ∧ Ints ws.reverse qs ∧ qs.length = ds.length ∧ (∀ q ∈ qs, 0 ≤ q ∧ q < 2 ^ n) ∧ undig n ds = undig n qs * b + R ∧
    m (Str.ofString "b") = some (.int b u) ∧ m (Str.ofString "n") = some (.int n kn) ∧ al ≠ ql ∧ (al, ao) ∈ N) 0 ks__divmod_pos k__divmod_pos_a_digit ?_ ?_ ?_ ?_
  · refine e_callt G ks__divmod_pos k__divmod_pos_reversed (id := "reversed") (by decide) rfl ?_
    repeat tb_rel
    refine it_rev (T := 0) Rd.handled (.inr (.tail _ (List.mem_append_left _ hal))) hao fun I o hIf hY hit => ?_
    refine hit _ _ (exI3 I o _ ⟨rfl, rfl, hY, exI9 xs [] [] 0 _ _ ql _ [] ⟨by simp, by simpa using hI, by kwd_inv, by omega, hb, by kwd_inv, .head _, ⟨0, rfl⟩, Ints.nil, rfl, (fun q hq => nomatch hq), by simp [undig], by kwd_inv, by kwd_inv, Nat.ne_of_lt (fql.gt _ (List.mem_append_left _ hal)), .tail _ (List.mem_append_left _ hal)⟩⟩)
  · intro r m N e_3 p hp
    refine exE9 e_3 fun rs ds qs R kr kn ql qo ws h_0 => anE16 h_0 fun _ _ _ _ _ _ _ _ _ _ _ _ _ _ _ ha => ?_
    clear h_0 e_3
    rw [List.mem_singleton.mp hp]; exact .inr ha
  · intro v0 r m N v e_4 hv
    refine exE9 e_4 fun rs ds qs R kr kn ql qo ws h_0 => anE16 h_0 fun hx hIr hmr hR0 hR1 hmq hqm hqo hIq hql hqd hsum hmb hmn hne ha' => ?_
    clear h_0 e_4
    obtain rfl : v = v0 := hv
    rw [List.reverse_cons] at hIr
    refine via fun ξ κ=>?_
    obtain ⟨rs', x, e_5⟩ : ∃ rs' x, rs = rs' ++ [x] := by
      have hl := hIr.length
      rw [List.length_append, List.length_singleton] at hl
      exact ⟨rs.dropLast, rs.getLast (by intro e; rw [e] at hl; simp at hl), (List.dropLast_concat_getLast _).symm⟩
    refine κ ?_;clear κ ξ
    subst e_5
    refine via fun ξ κ=>?_
    obtain ⟨hI1, hI2⟩ : Ints r.reverse rs' ∧ Ints [v] [x] := by
      unfold Ints at hIr ⊢
      rw [List.map_append, List.map_append] at hIr
      exact List.append_inj' hIr (by simp)
    refine κ ?_;clear κ ξ
    refine exE2 hI2.uncons fun tx vs' h_0 => anE2 h_0 fun e _ => ?_
    clear h_0
    refine anE2 (List.cons.inj e) fun e_6 e_7 => ?_
    subst e_6
    subst e_7
    have hxin : x ∈ xs := by rw [hx]; simp
    have hx01 := hxd x hxin
    have hbig : (R * 2 ^ n + x) < b * 2 ^ n := by
      have : (R + 1) * 2 ^ n ≤ b * 2 ^ n := Int.mul_le_mul_of_nonneg_right (by omega) (by omega)
      rw [Int.add_mul, Int.one_mul] at this; omega
    have hRn : 0 ≤ R * 2 ^ n := Int.mul_nonneg hR0 (by omega)
    refine ex_assign2 Rd.handled ks__divmod_pos k__divmod_pos_q_digit k__divmod_pos_r ?_
    refine e_callf G ks__divmod_pos k__divmod_pos__div2n1n (i := 3) (f := 37) (by decide) rfl ?_
    repeat tb_rel
    refine i_shl (by omega) (by refine shl_ok (bits_le hR0 (Int.lt_trans hR1 hbu)) ?_; omega) ?_
    intro _
    rw [Int.toNat_natCast]
    repeat tb_rel
    refine WB.callD (a := (R * 2 ^ n + x)) (b := b) G (fun s' O' _ => d2_all 3 _ _ _ (R * 2 ^ n + x) b n _ _ _ O' (Rd.le (by omega)) (by omega) (by rw [p20]; omega) (by omega) hbl hbu hbig) ?_
    intro tr kq kr' new hm hfr
    refine tupI tr _ _ _ (.inr (List.mem_append_left _ hm)) ?_
    refine ex_expr ?_
    refine e_meth attrBase_name rfl rfl ?_
    refine e_local ks__divmod_pos k__divmod_pos_q_digits (v := .ref ql) (by kwd_inv) ?_
    intro pl
    refine g_lst slot_list_append type_list_append (.inr (List.mem_append_right _ hqm)) hqo ?_
    refine call_b1 rfl ?_
    repeat tb_rel
    have hwl : ws.length = ds.length := by have := hIq.length; rw [List.length_reverse] at this; omega
    have hdsl : ds.length ≤ K := by rw [← hxl, hx, List.length_append, List.length_append]; omega
    refine c_append (List.mem_append_right _ hqm) hqo (by omega) fun qo' N' hLX hH hm' => ?_
    refine ex_nil (exI9 rs' (x :: ds) ((R * 2 ^ n + x) / b :: qs) ((R * 2 ^ n + x) % b) kr' kn ql qo' _ ⟨by rw [hx]; simp, hI1, by kwd_inv, Int.emod_nonneg _ (by omega), Int.emod_lt_of_pos _ hb,
      by kwd_inv, hm', hLX, ?_, by simp [hql], ?_, ?_, by kwd_inv, by kwd_inv, hne, ?_⟩)
    · rw [List.reverse_append]; exact Ints.cons hIq
    · intro q hq
      rcases List.mem_cons.mp hq with rfl | hq
      · exact ⟨Int.ediv_nonneg (by omega) (by omega), quot_lt hb hbig⟩
      · exact hqd q hq
    · have := ediv_mod (R * 2 ^ n + x) b
      rw [undig_cons, undig_cons, hsum, Int.mul_add, Int.add_mul, Int.mul_assoc, Int.mul_comm R] at *
      omega
    · exact (hH (al, ao) (List.mem_append_right _ ha')).resolve_left fun e => hne (Prod.mk.inj e).1
  · intro m N e_8
    refine exE9 e_8 fun rs ds qs R kr kn ql qo ws h_0 => anE16 h_0 fun hx hIr hmr hR0 hR1 hmq hqm hqo hIq hql hqd hsum hmb hmn hne ha' => ?_
    clear h_0 e_8
    have hrs : rs = [] := by have := hIr.length; simpa using this.symm
    subst hrs
    rw [List.nil_append] at hx
    subst hx
    have hws : ws.length = xs.length := by have := hIq.length; rw [List.length_reverse] at this; omega
    refine ex_expr ?_
    refine e_meth attrBase_name rfl rfl ?_
    refine e_local ks__divmod_pos k__divmod_pos_q_digits hmq ?_
    intro pl
    refine g_lst F.slot_list_reverse F.type_list_reverse (.inr hqm) hqo ?_
    refine call_b1 rfl ?_
    refine args_nil ?_
    refine c_reverse hqm hqo (by omega) fun qo' N' hLX hH hm' => ?_
    refine ex_assignL ks__divmod_pos k__divmod_pos_q ?_
    refine e_callf G ks__divmod_pos k__divmod_pos__digits2int (i := 6) (f := 58) (by decide) rfl ?_
    refine args_cons (e_local ks__divmod_pos k__divmod_pos_q_digits hmq ?_)
    refine args_cons (e_local ks__divmod_pos k__divmod_pos_n hmn ?_)
    refine args_nil ?_
    refine WB.callI (z := (undig n qs)) G (fun s' O' at' => digits2int O' (Rd.le (by omega)) (at' _ _ (.inr hm')) hLX.lo hIq n1 hqd (by rw [hql, hxl, p20]; omega)) ?_
    intro tq new
    refine ex_ret ?_
    refine e_tuple rfl ?_
    refine args_cons (e_local ks__divmod_pos k__divmod_pos_q (by kwd_inv) ?_)
    refine args_cons (e_local ks__divmod_pos k__divmod_pos_r (v := .int R kr) (by kwd_inv) ?_)
    refine args_nil ⟨by simp, fun tr ftr => ⟨tr, tq, kr, rfl, ?_⟩⟩
    have hu := divmod_uniq hb (a := a) (q := undig n qs) (r := R) (by rw [← hxs, hsum]) hR0 hR1
    rw [hu.1, hu.2]; exact .head _
end hdivmod_pos_b
theorem divmod_pos_b {g0 mg mb A s a b t u L} : hdivmod_pos_b.st_ g0 mg mb A s a b t u L := Mine.hk hdivmod_pos_b.ne_ (P := hdivmod_pos_b.Q_) hdivmod_pos_b.main_ (((g0, mg), (mb, (A, s))), ((a, b), (t, (u, L))))
section
variable {α β : Type} {prog : Program} {w : World} {g0 : Cx} {mg mb : Loc} {A : Around} {E : Value → Shared → Prop} {h₀ : Heap} {L : Addr} {m : Loc} {N : Led} {env : Env}
theorem divmod_pos {s : Shared} {a b : Int} {t u : Tok} (O : OkAt mg mb g0 s) (Ro : Room A 24) (ha : 0 ≤ a) (hb : 0 < b) (hab : intBits a ≤ 2 ^ 16) (hbb : intBits b ≤ 2 ^ 14) : wpAny (model g0.prog g0.w) A (call (.ref 66) [.int a t, .int b u]) (Back g0 s.heap (RDiv a b)) E s := by
  refine enter (name := "_divmod_pos") (f := 65) (i := 7) (n := 23) (binds := [(Str.ofString "a", .int a t), (Str.ofString "b", .int b u)]) (by decide) O Ro (fun pm => by rfl) ?_ (by rfl) (by rfl) (by rfl) (by rfl) ?_
  · intro x hx
    simp only [List.mem_cons, List.not_mem_nil, or_false] at hx
    rcases hx with rfl | rfl
    · exact k__divmod_pos_a
    · exact k__divmod_pos_b
  intro L
  exact divmod_pos_b O Ro ha hb hab hbb
end
end Mine

end

section
open PySem PySem.W PyProof.Rows
namespace Mine
open Builtin.Int (intBits)
noncomputable def RDivF (a b : Int) (v : Value) (N : Led) : Prop := ∃ r k k', v = .ref r ∧ (r, tupObj [.int (a.fdiv b) k, .int (a.fmod b) k']) ∈ N
theorem WB.callDF {g0 : Cx} {mg mb : Loc} {A : Around} {E : Value → Shared → Prop} {h₀ : Heap} {L : Addr} {m : Loc} {N : Led} {f : Value} {vs : List Value} {Q : Value → Loc → Led → Prop} {a b : Int} (G : Gd mg mb h₀)
    (hs : ∀ s, OkAt mg mb g0 s → (∀ a o, At h₀ N a o → s.heap.get? a = some o) → wpAny (model g0.prog g0.w) A (call f vs) (Back g0 s.heap (RDivF a b)) E s)
    (h : ∀ r k k' new, (r, tupObj [.int (a.fdiv b) k, .int (a.fmod b) k']) ∈ new → (∀ p ∈ new, Fresh h₀ L N p.1) → Q (.ref r) m (new ++ N)) : WB g0 A E h₀ L m N (call f vs) Q :=
  WB.callS G hs fun v new ⟨r, k, k', e, hm⟩ hf => e ▸ h r k k' new hm hf
section
variable {prog : Program} {w : World} {g0 : Cx} {mg mb : Loc}
theorem bits_neg (a : Int) : intBits (-a) = intBits a := by
  apply Nat.le_antisymm <;> refine intBits_le_iff.mpr ?_
  · rw [Int.natAbs_neg]; exact intBits_le_iff.mp (Nat.le_refl _)
  · have := intBits_le_iff.mp (Nat.le_refl (intBits (-a))); rwa [Int.natAbs_neg] at this
theorem bits_inv {a : Int} (h : a < 0) : intBits (-a - 1) ≤ intBits a := by
  refine intBits_le_iff.mpr ?_
  have := intBits_le_iff.mp (Nat.le_refl (intBits a))
  omega
theorem fdm_neg (a b : Int) (hb : b < 0) : a.fdiv b = (-a).fdiv (-b) ∧ a.fmod b = -((-a).fmod (-b)) := by
  have h1 := Int.mul_fdiv_add_fmod a b
  have e1 : (-a).fdiv (-b) = a.fdiv b := Int.neg_fdiv_neg a b
  have h2 := Int.mul_fdiv_add_fmod (-a) (-b)
  rw [e1, Int.neg_mul] at h2
  exact ⟨e1.symm, by omega⟩
theorem fdm_inv (a b : Int) (hb : 0 < b) : a.fdiv b = -((-a - 1) / b) - 1 ∧ a.fmod b = b + (-((-a - 1) % b) - 1) := by
  rw [fdiv_pos hb, fmod_pos hb]
  have h1 := ediv_mod (-a - 1) b
  have h2 := Int.emod_nonneg (-a - 1) (Int.ne_of_gt hb)
  have h3 := Int.emod_lt_of_pos (-a - 1) hb
  refine divmod_uniq hb ?_ (by omega) (by omega)
  rw [Int.sub_mul, Int.neg_mul]; omega
noncomputable def IDM (g0 : Cx) (mg mb : Loc) (k : Nat) : Prop :=
  ∀ (A : Around) (E : Value → Shared → Prop) (s : Shared) (a b : Int) (t u : Tok), OkAt mg mb g0 s → Room A (25 + k) → (k = 0 → 0 ≤ a) → (k ≤ 1 → 0 < b) → b ≠ 0 → intBits a ≤ 2 ^ 16 → intBits b ≤ 2 ^ 14 →
    wpAny (model g0.prog g0.w) A (call (.ref 73) [.int a t, .int b u]) (Back g0 s.heap (RDivF a b)) E s
end
namespace hidm_step_c_b
noncomputable def st_ (g0 : Mine.Cx) (mg mb : Mine.Loc) (A : PySem.Around) (s : PySem.Shared) (a b : Int) (t u : PySem.Tok) (L : PySem.Addr) : Prop := ∀ {k : Nat} (ih : ∀ k', k = k' + 1 → IDM g0 mg mb k') (O : OkAt mg mb g0 s) (Ro : Room A (25 + k)) (hp0 : (k = 0 → 0 ≤ a)) (hp1 : (k ≤ 1 → 0 < b)) (hb0 : b ≠ 0) (hba : intBits a ≤ 2 ^ 16) (hbb : intBits b ≤ 2 ^ 14), EntB g0 mg mb "int_divmod" 72 8 (24 + k) [(Str.ofString "a", .int a t), (Str.ofString "b", .int b u)] ((RDivF a b)) A s L
noncomputable abbrev T_ := (((Mine.Cx × Mine.Loc) × (Mine.Loc × (PySem.Around × PySem.Shared))) × ((Int × Int) × (PySem.Tok × (PySem.Tok × PySem.Addr))))
theorem ne_ : Nonempty T_ := ⟨by repeat' (first | apply Prod.mk | exact default | exact nAr | exact nCx | exact nSh | constructor)⟩
noncomputable def Q_ (p : T_) : Prop := st_ p.1.1.1 p.1.1.2 p.1.2.1 p.1.2.2.1 p.1.2.2.2 p.2.1.1 p.2.1.2 p.2.2.1 p.2.2.2.1 p.2.2.2.2
noncomputable def w_ : T_ := @Classical.epsilon _ ne_ fun p => ¬ Q_ p
noncomputable def a := w_.2.1.1
noncomputable def b := w_.2.1.2
theorem main_ : st_ w_.1.1.1 w_.1.1.2 w_.1.2.1 w_.1.2.2.1 w_.1.2.2.2 a b w_.2.2.1 w_.2.2.2.1 w_.2.2.2.2 := by
  intro k ih O Ro hp0 hp1 hb0 hba hbb
  intro hL G Rd
  refine WB.cm entry2 ?_
  show WB _ _ _ _ _ _ _ (execs (_ :: []) _) _
  refine ex_if ?_
  repeat tb_rel
  have e0 : (b == 0) = false := beq_eq_false_iff_ne.mpr hb0
  refine if_f1 (e0) ?_
  show WB _ _ _ _ _ _ _ (execs (_ :: []) _) _
  refine ex_if ?_
  repeat tb_rel
  by_cases hbn : b < 0
  · refine if_t1 (decide_eq_true hbn) ?_
    show WB _ _ _ _ _ _ _ (execs (_ :: _ :: []) _) _
    refine via fun ξ κ=>?_
    obtain ⟨k', e_1⟩ : ∃ k', k = k' + 1 := by
      cases k with
      | zero => have := hp1 (by omega); omega
      | succ k => exact ⟨k, rfl⟩
    refine κ ?_;clear κ ξ
    subst e_1
    refine ex_assign2 Rd.handled ks_int_divmod k_int_divmod_q k_int_divmod_r ?_
    refine e_callf G ks_int_divmod k_int_divmod_int_divmod (i := 8) (f := 72) (by decide) rfl ?_
    repeat tb_rel
    refine WB.callDF (a := (-a)) (b := (-b)) G (fun s' O' _ => ih k' rfl _ _ s' (-a) (-b) _ _ O' (Rd.le (by omega)) (fun h => ?_) (fun _ => by omega) (by omega) (by rw [bits_neg]; exact hba) (by rw [bits_neg]; exact hbb)) ?_
    · exfalso; have := hp1 (by omega); omega
    intro r kq kr new hm _
    refine tupI r _ _ _ (.inr (List.mem_append_left _ hm)) ?_
    repeat tb_rel
    refine e_tuple rfl ?_
    repeat tb_rel
    refine ⟨by simp, fun tr _ => ?_⟩
    unfold RDivF
    rw [(fdm_neg a b hbn).1, (fdm_neg a b hbn).2]
    exact exI3 tr _ _ ⟨rfl, .head _⟩
  · refine if_f1 (decide_eq_false hbn) ?_
    show WB _ _ _ _ _ _ _ (execs (_ :: []) _) _
    have hbp : 0 < b := by omega
    refine ex_if ?_
    repeat tb_rel
    by_cases han : a < 0
    · refine if_t1 (decide_eq_true han) ?_
      show WB _ _ _ _ _ _ _ (execs (_ :: _ :: []) _) _
      refine via fun ξ κ=>?_
      obtain ⟨k', e_2⟩ : ∃ k', k = k' + 1 := by
        cases k with
        | zero => have := hp0 rfl; omega
        | succ k => exact ⟨k, rfl⟩
      refine κ ?_;clear κ ξ
      subst e_2
      refine ex_assign2 Rd.handled ks_int_divmod k_int_divmod_q k_int_divmod_r ?_
      refine e_callf G ks_int_divmod k_int_divmod_int_divmod (i := 8) (f := 72) (by decide) rfl ?_
      repeat tb_rel
      refine WB.callDF (a := (-a - 1)) (b := b) G (fun s' O' _ => ih k' rfl _ _ s' (-a - 1) b _ _ O' (Rd.le (by omega)) (fun h => by omega) (fun _ => hbp) (by omega) (Nat.le_trans (bits_inv han) hba) hbb) ?_
      intro r kq kr new hm _
      refine tupI r _ _ _ (.inr (List.mem_append_left _ hm)) ?_
      repeat tb_rel
      refine e_tuple rfl ?_
      repeat tb_rel
      refine ⟨by simp, fun tr _ => ?_⟩
      unfold RDivF
      rw [(fdm_inv a b hbp).1, (fdm_inv a b hbp).2, ← fdiv_pos hbp, ← fmod_pos hbp]
      exact exI3 tr _ _ ⟨rfl, .head _⟩
    · refine if_f1 (decide_eq_false han) ?_
      show WB _ _ _ _ _ _ _ (execs (_ :: []) _) _
      repeat tb_rel
      refine e_callf G ks_int_divmod k_int_divmod__divmod_pos (i := 7) (f := 65) (by decide) rfl ?_
      repeat tb_rel
      refine WB.callD (a := a) (b := b) G (fun s' O' _ => divmod_pos O' (Rd.le (by omega)) (by omega) hbp hba hbb) ?_
      intro r kq kr new hm _
      refine exI3 r kq kr ⟨rfl, ?_⟩
      rw [fdiv_pos hbp, fmod_pos hbp]
      exact List.mem_append_left _ hm
end hidm_step_c_b
theorem idm_step_c_b {g0 mg mb A s a b t u L} : hidm_step_c_b.st_ g0 mg mb A s a b t u L := Mine.hk hidm_step_c_b.ne_ (P := hidm_step_c_b.Q_) hidm_step_c_b.main_ (((g0, mg), (mb, (A, s))), ((a, b), (t, (u, L))))
section
variable {prog : Program} {w : World} {g0 : Cx} {mg mb : Loc}
theorem idm_step_c {k : Nat} (ih : ∀ k', k = k' + 1 → IDM g0 mg mb k') {A : Around} {E : Value → Shared → Prop} {s : Shared} {a b : Int} {t u : Tok} (O : OkAt mg mb g0 s) (Ro : Room A (25 + k)) (hp0 : (k = 0 → 0 ≤ a)) (hp1 : (k ≤ 1 → 0 < b)) (hb0 : b ≠ 0) (hba : intBits a ≤ 2 ^ 16) (hbb : intBits b ≤ 2 ^ 14) : wpAny (model g0.prog g0.w) A (call (.ref 73) [.int a t, .int b u]) (Back g0 s.heap (RDivF a b)) E s := by
  refine enter (name := "int_divmod") (f := 72) (i := 8) (n := 24 + k) (binds := [(Str.ofString "a", .int a t), (Str.ofString "b", .int b u)]) (by decide) O (Ro.le (by omega)) (fun pm => by rfl) ?_ (by rfl) (by rfl) (by rfl) (by rfl) ?_
  · intro x hx
    simp only [List.mem_cons, List.not_mem_nil, or_false] at hx
    rcases hx with rfl | rfl
    · exact k_int_divmod_a
    · exact k_int_divmod_b
  intro L
  exact idm_step_c_b ih O Ro hp0 hp1 hb0 hba hbb
theorem idm_step {k : Nat} (ih : ∀ k', k = k' + 1 → IDM g0 mg mb k') : IDM g0 mg mb k := fun _ _ _ _ _ _ _ O Ro hp0 hp1 hb0 hba hbb => idm_step_c ih O Ro hp0 hp1 hb0 hba hbb
theorem idm_all : ∀ k, IDM g0 mg mb k
  | 0 => idm_step (by omega)
  | k + 1 => idm_step fun k' e => by cases e; exact idm_all k
theorem int_divmod {A : Around} {E : Value → Shared → Prop} {s : Shared} {a b : Int} {t u : Tok} (O : OkAt mg mb g0 s) (Ro : Room A 27) (hb : b ≠ 0) (ha : intBits a ≤ 2 ^ 16) (hbb : intBits b ≤ 2 ^ 14) :
    wpAny (model g0.prog g0.w) A (call (.ref 73) [.int a t, .int b u]) (Back g0 s.heap (RDivF a b)) E s :=
  idm_all 2 A E s a b t u O Ro (by omega) (by omega) hb ha hbb
end
end Mine

end

section
set_option maxRecDepth 100000
open PySem
open Sem (wp)
namespace Mine
namespace H
theorem lk_list : typeLookup (.type "list") "__getitem__" = pure (some (.builtin "list.__getitem__")) := by rw [typeLookup_type, builtinLookup_eq_fast]; kernel_rfl
theorem lk_str : typeLookup (.type "str") "__getitem__" = pure (some (.builtin "str.__getitem__")) := by rw [typeLookup_type, builtinLookup_eq_fast]; kernel_rfl
theorem ty_list : typeOf (.builtin "list.__getitem__") = pure (.type "method_descriptor") := by show builtinType _ = _; rw [builtinType_eq_fast]; kernel_rfl
theorem ty_str : typeOf (.builtin "str.__getitem__") = pure (.type "wrapper_descriptor") := by show builtinType _ = _; rw [builtinType_eq_fast]; kernel_rfl
theorem slot_md : Slot "method_descriptor" "__get__" "method_descriptor.__get__" :=
  .of (owner := "method_descriptor") (n := "__get__") (by rw [typeLookup_type, builtinLookup_eq_fast]; kernel_rfl) (by decide +kernel) (by decide +kernel) (by decide +kernel)
    (by first | exact .inl (by decide +kernel) | exact .inr (by decide +kernel)) (by rw [isSubtype_type]; kernel_rfl)
theorem slot_wd : Slot "wrapper_descriptor" "__get__" "wrapper_descriptor.__get__" :=
  .of (owner := "wrapper_descriptor") (n := "__get__") (by rw [typeLookup_type, builtinLookup_eq_fast]; kernel_rfl) (by decide +kernel) (by decide +kernel) (by decide +kernel)
    (by first | exact .inl (by decide +kernel) | exact .inr (by decide +kernel)) (by rw [isSubtype_type]; kernel_rfl)
theorem no_set_md : typeLookup (.type "method_descriptor") "__set__" = pure none := by rw [typeLookup_type, builtinLookup_eq_fast]; kernel_rfl
theorem no_set_wd : typeLookup (.type "wrapper_descriptor") "__set__" = pure none := by rw [typeLookup_type, builtinLookup_eq_fast]; kernel_rfl
theorem no_del_md : typeLookup (.type "method_descriptor") "__delete__" = pure none := by rw [typeLookup_type, builtinLookup_eq_fast]; kernel_rfl
theorem no_del_wd : typeLookup (.type "wrapper_descriptor") "__delete__" = pure none := by rw [typeLookup_type, builtinLookup_eq_fast]; kernel_rfl
theorem entry_md : entryFor table "method_descriptor.__get__" = some Builtin.«method_descriptor.__get__» := entryFor_of_tree (by kernel_rfl)
theorem entry_wd : entryFor table "wrapper_descriptor.__get__" = some Builtin.«wrapper_descriptor.__get__» := entryFor_of_tree (by kernel_rfl)
theorem args_md (a b c : Value) : argsOk "method_descriptor.__get__" ⟨[a, b, c], []⟩ := by unfold argsOk; kernel_rfl
theorem args_wd (a b c : Value) : argsOk "wrapper_descriptor.__get__" ⟨[a, b, c], []⟩ := by unfold argsOk; kernel_rfl
theorem entry_has : entryFor table "hasattr" = some Builtin.«hasattr» := entryFor_of_tree (by kernel_rfl)
end H
namespace H
theorem owner_list : (".".intercalate ("list.__getitem__".cutAt '.').dropLast) = "list" := by
  have e0 : "list.__getitem__".cutAt '.' = ["list", "__getitem__"] := by first | rfl | decide +kernel
  rw [e0]; decide +kernel
theorem owner_str : (".".intercalate ("str.__getitem__".cutAt '.').dropLast) = "str" := by
  have e0 : "str.__getitem__".cutAt '.' = ["str", "__getitem__"] := by first | rfl | decide +kernel
  rw [e0]; decide +kernel
theorem sub_list : isSubtype (.type "list") (.type (".".intercalate ("list.__getitem__".cutAt '.').dropLast)) = pure true := by
  rw [owner_list, isSubtype_type]; kernel_rfl
theorem sub_str : isSubtype (.type "str") (.type (".".intercalate ("str.__getitem__".cutAt '.').dropLast)) = pure true := by
  rw [owner_str, isSubtype_type]; kernel_rfl
theorem told_list : Manifest.toldItsClass.contains "list.__getitem__" = false ∨ Manifest.toldItsClass.contains "list.__getitem__" = true := by
  cases Manifest.toldItsClass.contains "list.__getitem__" <;> simp
theorem is_type_list : isType (.type "list") = pure true := by rfl
end H
section
variable {prog : Program} {w : World} {A : Around} {E : Value → Shared → Prop} {h : Heap} {g : Array GenState} {d : Drawn} {t : Nat} {os : OsState} {a : Addr} {vs : Array Value} {n : Nat} {x : Str} {u : Tok}
theorem get_list {R : Result → Shared → Prop} (hx : h.get? a = some { cls := .type "list", data := .seq vs n }) (hq : R (.ok (.ret (.ref h.objs.size))) ⟨h.push { cls := .type "builtin_function_or_method", data := .fields #[.builtin "list.__getitem__", .ref a] }, g, d, t, os⟩) :
    codeAny (model prog w) A (.call (.builtin "method_descriptor.__get__") ⟨[.builtin "list.__getitem__", .ref a, .type "list"], []⟩) R ⟨h, g, d, t, os⟩ := by
  have hT : (⟨h, g, d, t, os⟩ : Shared).TypeIs (.ref a) "list" := ⟨_, hx, rfl⟩
  have hT5 : (⟨h, g, d, t, os⟩ : Shared).TypeIs (.builtin "list.__getitem__") "method_descriptor" := H.ty_list
  have f8 := H.sub_list
  refine codeAny_call_builtin H.slot_md.plain H.entry_md (H.slot_md.check _ _ _ _ _ _ _ _ hT5 (H.args_md _ _ _) ?_)
  repeat (any_goals (first | assumption | wp_step))
theorem get_str {R : Result → Shared → Prop} (hq : R (.ok (.ret (.ref h.objs.size))) ⟨h.push { cls := .type "method-wrapper", data := .fields #[.builtin "str.__getitem__", .str x u] }, g, d, t, os⟩) :
    codeAny (model prog w) A (.call (.builtin "wrapper_descriptor.__get__") ⟨[.builtin "str.__getitem__", .str x u, .type "str"], []⟩) R ⟨h, g, d, t, os⟩ := by
  have hT : (⟨h, g, d, t, os⟩ : Shared).TypeIs (.str x u) "str" := rfl
  have hT5 : (⟨h, g, d, t, os⟩ : Shared).TypeIs (.builtin "str.__getitem__") "wrapper_descriptor" := H.ty_str
  have f8 := H.sub_str
  refine codeAny_call_builtin H.slot_wd.plain H.entry_wd (H.slot_wd.check _ _ _ _ _ _ _ _ hT5 (H.args_wd _ _ _) ?_)
  repeat (any_goals (first | assumption | wp_step))
noncomputable abbrev bL (a : Addr) : Obj := { cls := .type "builtin_function_or_method", data := .fields #[.builtin "list.__getitem__", .ref a] }
noncomputable abbrev bS (x : Str) (u : Tok) : Obj := { cls := .type "method-wrapper", data := .fields #[.builtin "str.__getitem__", .str x u] }
theorem ent_list {tk : Tok} {Q : Fin → Shared → Prop} (hx : h.get? a = some { cls := .type "list", data := .seq vs n }) (hq : Q (.done (.ret (.ref h.objs.size))) ⟨h.push (bL a), g, d, t, os⟩) :
    wpAny (model prog w) A (Builtin.«object.__getattribute__» ⟨[.ref a, .str "__getitem__" tk], []⟩) Q E ⟨h, g, d, t, os⟩ := by
  have hT : (⟨h, g, d, t, os⟩ : Shared).TypeIs (.ref a) "list" := ⟨_, hx, rfl⟩
  have hT5 : (⟨h, g, d, t, os⟩ : Shared).TypeIs (.builtin "list.__getitem__") "method_descriptor" := H.ty_list
  have f4 := H.lk_list
  have f5 := H.ty_list
  have f6 := H.slot_md.lookup
  have f7 := H.no_set_md
  have f8 := H.no_del_md
  repeat (any_goals (first | assumption | wp_step))
  refine get_list hx ?_
  repeat (any_goals (first | assumption | wp_step))
theorem ent_str {tk : Tok} {Q : Fin → Shared → Prop} (hq : Q (.done (.ret (.ref h.objs.size))) ⟨h.push (bS x u), g, d, t, os⟩) :
    wpAny (model prog w) A (Builtin.«object.__getattribute__» ⟨[.str x u, .str "__getitem__" tk], []⟩) Q E ⟨h, g, d, t, os⟩ := by
  have hT : (⟨h, g, d, t, os⟩ : Shared).TypeIs (.str x u) "str" := rfl
  have hT5 : (⟨h, g, d, t, os⟩ : Shared).TypeIs (.builtin "str.__getitem__") "wrapper_descriptor" := H.ty_str
  have f4 := H.lk_str
  have f5 := H.ty_str
  have f6 := H.slot_wd.lookup
  have f7 := H.no_set_wd
  have f8 := H.no_del_wd
  repeat (any_goals (first | assumption | wp_step))
  refine get_str ?_
  repeat (any_goals (first | assumption | wp_step))
theorem call_ga_list {tk : Tok} {R : Result → Shared → Prop} (hx : h.get? a = some { cls := .type "list", data := .seq vs n }) (hq : R (.ok (.ret (.ref h.objs.size))) ⟨h.push (bL a), g, d, t, os⟩) :
    codeAny (model prog w) A (.call (.builtin "list.__getattribute__") ⟨[.ref a, .str "__getitem__" tk], []⟩) R ⟨h, g, d, t, os⟩ :=
  codeAny_call_builtin F.slot_list_getattribute.plain F.entry_list_ga (F.slot_list_getattribute.check _ _ _ _ _ _ _ _ (show (⟨h, g, d, t, os⟩ : Shared).TypeIs (.ref a) "list" from ⟨_, hx, rfl⟩) (F.args_list_getattribute_2 _ _) (ent_list hx hq))
theorem call_ga_str {tk : Tok} {R : Result → Shared → Prop} (hq : R (.ok (.ret (.ref h.objs.size))) ⟨h.push (bS x u), g, d, t, os⟩) :
    codeAny (model prog w) A (.call (.builtin "object.__getattribute__") ⟨[.str x u, .str "__getitem__" tk], []⟩) R ⟨h, g, d, t, os⟩ :=
  codeAny_call_builtin F.slot_str_getattribute.plain F.entry_object_getattribute (F.slot_str_getattribute.check _ _ _ _ _ _ _ _ (show (⟨h, g, d, t, os⟩ : Shared).TypeIs (.str x u) "str" from rfl) (F.args_object_getattribute_2 _ _) (ent_str hq))
theorem by_list {tk : Tok} {Q : Value → Shared → Prop} (hx : h.get? a = some { cls := .type "list", data := .seq vs n }) (hq : Q (.ref h.objs.size) ⟨h.push (bL a), g, d, t, os⟩) : wpAny (model prog w) A (getAttrBy (.ref a) (.str "__getitem__" tk) false) Q E ⟨h, g, d, t, os⟩ := by
  have hT : (⟨h, g, d, t, os⟩ : Shared).TypeIs (.ref a) "list" := ⟨_, hx, rfl⟩
  have f2 := F.slot_list_getattribute.lookup
  have f3 := F.slot_list_getattribute.bind (.ref a)
  repeat (any_goals (first | assumption | wp_step))
  refine call_ga_list hx ?_
  repeat (any_goals (first | assumption | wp_step))
theorem by_str {tk : Tok} {Q : Value → Shared → Prop} (hq : Q (.ref h.objs.size) ⟨h.push (bS x u), g, d, t, os⟩) : wpAny (model prog w) A (getAttrBy (.str x u) (.str "__getitem__" tk) false) Q E ⟨h, g, d, t, os⟩ := by
  have hT : (⟨h, g, d, t, os⟩ : Shared).TypeIs (.str x u) "str" := rfl
  have f2 := F.slot_str_getattribute.lookup
  have f3 := F.slot_str_getattribute.bind (.str x u)
  repeat (any_goals (first | assumption | wp_step))
  refine call_ga_str ?_
  repeat (any_goals (first | assumption | wp_step))
theorem attr_list {tk : Tok} {Q : Option Value → Shared → Prop} (hx : h.get? a = some { cls := .type "list", data := .seq vs n }) (hq : Q (some (.ref h.objs.size)) ⟨h.push (bL a), g, d, t, os⟩) : wpAny (model prog w) A (getAttrBy? (.ref a) (.str "__getitem__" tk)) Q E ⟨h, g, d, t, os⟩ := by
  unfold getAttrBy?
  repeat (any_goals (first | assumption | with_reducible apply by_list hx | wp_step))
theorem attr_str {tk : Tok} {Q : Option Value → Shared → Prop} (hq : Q (some (.ref h.objs.size)) ⟨h.push (bS x u), g, d, t, os⟩) : wpAny (model prog w) A (getAttrBy? (.str x u) (.str "__getitem__" tk)) Q E ⟨h, g, d, t, os⟩ := by
  unfold getAttrBy?
  repeat (any_goals (first | assumption | with_reducible apply by_str | wp_step))
end
namespace H
theorem no_data_l : withoutEnding? "list.__getitem__" "#data" = none := by decide +kernel
theorem no_data_s : withoutEnding? "str.__getitem__" "#data" = none := by decide +kernel
theorem kind_has : builtinKind "hasattr" = none := by decide +kernel
theorem plain_has : plainId "hasattr" = true := by decide +kernel
theorem args_has (a b : Value) : argsOk "hasattr" ⟨[a, b], []⟩ := by unfold argsOk; kernel_rfl
theorem sub_lm : isSubtype (.type "list") (.type "module") = pure false := by rw [isSubtype_type]; kernel_rfl
end H
section
variable {prog : Program} {w : World} {A : Around} {E : Value → Shared → Prop} {h : Heap} {g : Array GenState} {d : Drawn} {t : Nat} {os : OsState} {a : Addr} {vs : Array Value} {n : Nat} {x : Str} {u : Tok}
theorem has_str {tk : Tok} {Q : Value → Shared → Prop} (hq : Q (.bool true) ⟨h.push (bS x u), g, d, t, os⟩) :
    wpAny (model prog w) A (call (.builtin "hasattr") [.str x u, .str "__getitem__" tk]) Q E ⟨h, g, d, t, os⟩ := by
  have hT : (⟨h, g, d, t, os⟩ : Shared).TypeIs (.str x u) "str" := rfl
  refine Calls.call_function_entry H.kind_has H.plain_has H.entry_has (H.args_has _ _) ?_
  unfold Builtin.«hasattr»
  refine wpAny_bind (wpAny_of_eq (a := [.str x u, .str "__getitem__" tk]) rfl ?_)
  refine wpAny_bind (wpAny_of_eq (a := ()) rfl ?_)
  rw [if_neg (show ¬ (((Value.str x u) == Value.builtin "__main__.__loader__#opaque") = true) by show ¬ (false = true); exact Bool.false_ne_true)]
  refine wpAny_bind (wpAny_typeOf hT ?_)
  dsimp only
  refine wpAny_bind (wpAny_of_eq (show asStr? (.str (Str.ofString "__getitem__") tk) = pure (some (Str.ofString "__getitem__")) from rfl) ?_)
  dsimp only
  refine wpAny_bind (wpAny_of_eq H.lk_str ?_)
  dsimp only
  refine wpAny_bind (wpAny_of_eq F.slot_str_getattribute.lookup ?_)
  rw [H.no_data_s]
  simp only [Option.isSome_none, Bool.false_and, Bool.false_eq_true, if_false]
  refine wpAny_bind (wpAny_of_eq (a := 0) rfl ?_)
  simp only [show ((0 : Nat) == 1) = false from rfl, Bool.false_eq_true, if_false]
  refine wpAny_bind (attr_str ?_)
  exact wpAny_pure ⟨_, rfl, hq⟩
theorem has_list {tk : Tok} {Q : Value → Shared → Prop} (hx : h.get? a = some { cls := .type "list", data := .seq vs n }) (hq : Q (.bool true) ⟨h.push (bL a), g, d, t, os⟩) :
    wpAny (model prog w) A (call (.builtin "hasattr") [.ref a, .str "__getitem__" tk]) Q E ⟨h, g, d, t, os⟩ := by
  have hT : (⟨h, g, d, t, os⟩ : Shared).TypeIs (.ref a) "list" := ⟨_, hx, rfl⟩
  refine Calls.call_function_entry H.kind_has H.plain_has H.entry_has (H.args_has _ _) ?_
  unfold Builtin.«hasattr»
  refine wpAny_bind (wpAny_of_eq (a := [.ref a, .str "__getitem__" tk]) rfl ?_)
  refine wpAny_bind (wpAny_of_eq (a := ()) rfl ?_)
  rw [if_neg (show ¬ (((Value.ref a) == Value.builtin "__main__.__loader__#opaque") = true) by show ¬ (false = true); exact Bool.false_ne_true)]
  refine wpAny_bind (wpAny_typeOf hT ?_)
  dsimp only
  refine wpAny_bind (wpAny_of_eq (show asStr? (.str (Str.ofString "__getitem__") tk) = pure (some (Str.ofString "__getitem__")) from rfl) ?_)
  dsimp only
  refine wpAny_bind (wpAny_of_eq H.lk_list ?_)
  dsimp only
  refine wpAny_bind (wpAny_of_eq F.slot_list_getattribute.lookup ?_)
  rw [H.no_data_l]
  simp only [Option.isSome_none, Bool.false_and, Bool.false_eq_true, if_false]
  refine wpAny_bind (?_)
  show wpAny _ _ (asStr? (.str (Str.ofString "__getitem__") tk) >>= _) _ _ _
  refine wpAny_bind (wpAny_of_eq (show asStr? (.str (Str.ofString "__getitem__") tk) = pure (some (Str.ofString "__getitem__")) from rfl) ?_)
  show wpAny _ _ (isInstance (.ref a) (.type "module") >>= _) _ _ _
  refine wpAny_bind (wpAny_isInstance (T := "list") (b := false) hT H.sub_lm ?_)
  refine wpAny_pure ?_
  simp only [show ((0 : Nat) == 1) = false from rfl, Bool.false_eq_true, if_false]
  refine wpAny_bind (attr_list hx ?_)
  exact wpAny_pure ⟨_, rfl, hq⟩
end
end Mine

end

section
open PySem PySem.W PyProof.Rows
namespace Mine
open Builtin.Int (intBits)
section
variable {prog : Program} {w : World} {g0 : Cx} {mg mb : Loc} {A : Around} {E : Value → Shared → Prop} {s : Shared} {h₀ : Heap} {L : Addr} {m : Loc} {N : Led} {env : Env}
theorem f_add {a b : Int} {t u : Tok} (O : OkAt mg mb g0 s) (Ro : Room A 1) : wpAny (model g0.prog g0.w) A (call (.ref 80) [.int a t, .int b u]) (Back g0 s.heap (RInt (a + b))) E s := by
  refine enter (name := "add") (f := 79) (i := 10) (n := 0) (binds := [(Str.ofString "a", .int a t), (Str.ofString "b", .int b u)]) (by decide) O Ro (fun pm => by rfl) ?_ (by rfl) (by rfl) (by rfl) (by rfl) ?_
  · intro x hx
    simp only [List.mem_cons, List.not_mem_nil, or_false] at hx
    rcases hx with rfl | rfl
    · exact k_add_a
    · exact k_add_b
  intro L hL G Rd
  refine WB.cm entry2 ?_
  show WB _ _ _ _ _ _ _ (execs (_ :: []) _) _
  repeat tb_rel
  exact ⟨_, rfl⟩
theorem f_mul {a b : Int} {t u : Tok} (O : OkAt mg mb g0 s) (Ro : Room A 1) (hm : IntMulOk a b) : wpAny (model g0.prog g0.w) A (call (.ref 87) [.int a t, .int b u]) (Back g0 s.heap (RInt (a * b))) E s := by
  refine enter (name := "mul") (f := 86) (i := 11) (n := 0) (binds := [(Str.ofString "a", .int a t), (Str.ofString "b", .int b u)]) (by decide) O Ro (fun pm => by rfl) ?_ (by rfl) (by rfl) (by rfl) (by rfl) ?_
  · intro x hx
    simp only [List.mem_cons, List.not_mem_nil, or_false] at hx
    rcases hx with rfl | rfl
    · exact k_mul_a
    · exact k_mul_b
  intro L hL G Rd
  refine WB.cm entry2 ?_
  show WB _ _ _ _ _ _ _ (execs (_ :: []) _) _
  repeat tb_rel
  refine i_mul hm ?_
  intro t
  exact ⟨t, rfl⟩
theorem f_neg {a : Int} {t : Tok} (O : OkAt mg mb g0 s) (Ro : Room A 1) : wpAny (model g0.prog g0.w) A (call (.ref 94) [.int a t]) (Back g0 s.heap (RInt (-a))) E s := by
  refine enter (name := "neg") (f := 93) (i := 12) (n := 0) (binds := [(Str.ofString "a", .int a t)]) (by decide) O Ro (fun pm => by rfl) ?_ (by rfl) (by rfl) (by rfl) (by rfl) ?_
  · intro x hx
    simp only [List.mem_cons, List.not_mem_nil, or_false] at hx
    subst hx
    exact k_neg_a
  intro L hL G Rd
  refine WB.cm entry1 ?_
  show WB _ _ _ _ _ _ _ (execs (_ :: []) _) _
  repeat tb_rel
  exact ⟨_, rfl⟩
theorem f_sub {a b : Int} {t u : Tok} (O : OkAt mg mb g0 s) (Ro : Room A 1) : wpAny (model g0.prog g0.w) A (call (.ref 101) [.int a t, .int b u]) (Back g0 s.heap (RInt (a - b))) E s := by
  refine enter (name := "sub") (f := 100) (i := 13) (n := 0) (binds := [(Str.ofString "a", .int a t), (Str.ofString "b", .int b u)]) (by decide) O Ro (fun pm => by rfl) ?_ (by rfl) (by rfl) (by rfl) (by rfl) ?_
  · intro x hx
    simp only [List.mem_cons, List.not_mem_nil, or_false] at hx
    rcases hx with rfl | rfl
    · exact k_sub_a
    · exact k_sub_b
  intro L hL G Rd
  refine WB.cm entry2 ?_
  show WB _ _ _ _ _ _ _ (execs (_ :: []) _) _
  repeat tb_rel
  exact ⟨_, rfl⟩
theorem f_ipow {a b : Int} {t u : Tok} (O : OkAt mg mb g0 s) (Ro : Room A 1) (h0 : 0 ≤ b) (hz : (intBits a : Int) * b ≤ 2 ^ 27) : wpAny (model g0.prog g0.w) A (call (.ref 122) [.int a t, .int b u]) (Back g0 s.heap (RInt (a ^ b.toNat))) E s := by
  refine enter (name := "ipow") (f := 121) (i := 16) (n := 0) (binds := [(Str.ofString "a", .int a t), (Str.ofString "b", .int b u)]) (by decide) O Ro (fun pm => by rfl) ?_ (by rfl) (by rfl) (by rfl) (by rfl) ?_
  · intro x hx
    simp only [List.mem_cons, List.not_mem_nil, or_false] at hx
    rcases hx with rfl | rfl
    · exact k_ipow_a
    · exact k_ipow_b
  intro L hL G Rd
  refine WB.cm entry2 ?_
  show WB _ _ _ _ _ _ _ (execs (_ :: _ :: []) _) _
  refine ex_augL ks_ipow k_ipow_a (by kwd_inv) ?_
  repeat tb_rel
  refine i_ipow h0 hz ?_
  intro t
  repeat tb_rel
  exact ⟨t, rfl⟩
theorem s_add {x y : Str} {t u : Tok} {Q : Value → Loc → Led → Prop} (hz : x.length + y.length ≤ 1000000) (h : ∀ k, Q (.str (x ++ y) k) m N) : WB g0 A E h₀ L m N (binaryOp .Add (.str x t) (.str y u)) Q :=
  WB.tok (f := fun k => .str (x ++ y) k) (fun s Q' E' q => SB.add (fun _ _ => q _ _) (by rw [sizeLine_eq]; omega)) h
theorem s_eq {x y : Str} {t u : Tok} {Q : Value → Loc → Led → Prop} (h : Q (.bool (x.cps.toList == y.cps.toList)) m N) : WB g0 A E h₀ L m N (compareOp .Eq (.str x t) (.str y u)) Q := by
  with_reducible exact WB.still (a := .bool (x.cps.toList == y.cps.toList)) (fun s Q' E' q => P.eq_str (q _)) h
theorem s_is {x y : Str} {t u : Tok} {Q : Value → Loc → Led → Prop} (G : Gd mg mb h₀) (ht : t ≠ 0) (hu : u ≠ 0) (htu : t = u → x = y) (h : ∀ b : Bool, (b = true → x = y) → Q (.bool b) m N) : WB g0 A E h₀ L m N (compareOp .Is (.str x t) (.str y u)) Q :=
  ⟨fun s I => by
    have hnb : NoneBooked s.heap := let ⟨mc, a, b⟩ := G.nb; ⟨mc, a.keeps I.fr.keep, b⟩
    have h00 : (t == 0 || u == 0) = false := by simp [ht, hu]
    show wpAny (model g0.prog g0.w) A (do return Value.bool (← isSame (.str x t) (.str y u))) _ E s
    refine wpAny_bind ?_
    by_cases hxy : x = y
    · exact wpAny_isSame_str h00 hnb fun b => wpAny_pure (exI2 m N ⟨I, .refl .., h b fun _ => hxy⟩)
    · have e := isSame_str_other x y t u h00 (by simpa using fun e => hxy (htu e)) (by simpa using hxy)
      refine (Eq.symm e) ▸ ?_
      exact wpAny_pure (wpAny_pure ⟨m, N, I, .refl .., h false fun e => by cases e⟩)⟩
theorem c_has_l {l : Addr} {lo : Obj} {vs : List Value} {tk : Tok} {Q : Value → Loc → Led → Prop} (hl : At h₀ N l lo) (ho : LX lo vs) (h : Q (.bool true) m N) : WB g0 A E h₀ L m N (call (.builtin "hasattr") [.ref l, .str (Str.ofString "__getitem__") tk]) Q := by
  refine WB.wild (R := fun v => v = .bool true) (fun s Q' E' at_ q => ?_) (fun a e => e ▸ h)
  refine via fun ξ κ=>?_
  obtain ⟨n, e⟩ := ho
  refine κ ?_;clear κ ξ
  have hg := at_ _ _ hl
  rw [e] at hg
  refine via fun ξ κ=>?_
  obtain ⟨hp, g, d, t, os⟩ := s
  refine κ ?_;clear κ ξ
  exact has_list hg (q _ _ _ rfl (fun b o e => Heap.get?_push_of_some _ e) (by show hp.objs.size ≤ (hp.push _).objs.size; rw [Heap.size_push]; exact Nat.le_succ _))
theorem c_has_s {x : Str} {u tk : Tok} {Q : Value → Loc → Led → Prop} (h : Q (.bool true) m N) : WB g0 A E h₀ L m N (call (.builtin "hasattr") [.str x u, .str (Str.ofString "__getitem__") tk]) Q := by
  refine WB.wild (R := fun v => v = .bool true) (fun s Q' E' at_ q => ?_) (fun a e => e ▸ h)
  refine via fun ξ κ=>?_
  obtain ⟨hp, g, d, t, os⟩ := s
  refine κ ?_;clear κ ξ
  exact has_str (q _ _ _ rfl (fun b o e => Heap.get?_push_of_some _ e) (by show hp.objs.size ≤ (hp.push _).objs.size; rw [Heap.size_push]; exact Nat.le_succ _))
theorem l_add {a b : Addr} {ao bo : Obj} {vs ws : List Value} {Q : Value → Loc → Led → Prop} (ha : At h₀ N a ao) (hao : LX ao vs) (hb : At h₀ N b bo) (hbo : LX bo ws) (hz : vs.length + ws.length ≤ 1000000) (h : ∀ r, Fresh h₀ L N r → Q (.ref r) m ((r, lstObj (vs ++ ws)) :: N)) :
    WB g0 A E h₀ L m N (binaryOp .Add (.ref a) (.ref b)) Q := by
  refine WB.alloc (o := lstObj (vs ++ ws)) rfl (fun s Q' E' at_ q => ?_) h
  refine via fun ξ κ=>?_
  obtain ⟨n, e⟩ := hao
  refine κ ?_;clear κ ξ
  refine via fun ξ κ=>?_
  obtain ⟨n2, e2⟩ := hbo
  refine κ ?_;clear κ ξ
  have hg := at_ _ _ ha
  have hg2 := at_ _ _ hb
  rw [e] at hg
  rw [e2] at hg2
  refine concat_meets ⟨_, hg, rfl⟩ ⟨_, hg2, rfl⟩ noFill_list_add seq_list_add PySem.F.slot_list_add PySem.F.entry_list_add (PySem.F.args_list_add_2 _ _) (list_addW a b vs.toArray ws.toArray n n2 none none #[] #[] (by simp; rw [sizeLine_eq]; omega)) ⟨hg, hg2, ?_⟩
  have e : vs.toArray ++ ws.toArray = (vs ++ ws).toArray := by simp
  refine (Eq.symm e) ▸ ?_
  exact q s.toks
theorem f_concat_s {x y : Str} {t u : Tok} (O : OkAt mg mb g0 s) (Ro : Room A 1) (hz : x.length + y.length ≤ 1000000) : wpAny (model g0.prog g0.w) A (call (.ref 108) [.str x t, .str y u]) (Back g0 s.heap fun v _ => ∃ k, v = .str (x ++ y) k) E s := by
  refine enter (name := "concat") (f := 107) (i := 14) (n := 0) (binds := [(Str.ofString "a", .str x t), (Str.ofString "b", .str y u)]) (by decide) O Ro (fun pm => by rfl) ?_ (by rfl) (by rfl) (by rfl) (by rfl) ?_
  · intro x hx
    simp only [List.mem_cons, List.not_mem_nil, or_false] at hx
    rcases hx with rfl | rfl
    · exact k_concat_a
    · exact k_concat_b
  intro L hL G Rd
  refine WB.cm entry2 ?_
  show WB _ _ _ _ _ _ _ (execs (_ :: _ :: []) _) _
  refine ex_if ?_
  refine t_not (t_call ?_)
  refine e_callb G ks_concat k_concat_hasattr (id := "hasattr") (by decide) rfl ?_
  repeat tb_rel
  refine e_str ?_
  intro _
  repeat tb_rel
  refine c_has_s ?_
  repeat tb_rel
  show WB _ _ _ _ _ _ _ (execs (_ :: []) _) _
  repeat tb_rel
  refine s_add hz fun k => ⟨k, rfl⟩
theorem f_concat_l {a b : Addr} {ao bo : Obj} {vs ws : List Value} (O : OkAt mg mb g0 s) (Ro : Room A 1) (ha : s.heap.get? a = some ao) (hao : LX ao vs) (hb : s.heap.get? b = some bo) (hbo : LX bo ws) (hz : vs.length + ws.length ≤ 1000000) :
    wpAny (model g0.prog g0.w) A (call (.ref 108) [.ref a, .ref b]) (Back g0 s.heap fun v new => ∃ r ro, v = .ref r ∧ (r, ro) ∈ new ∧ LX ro (vs ++ ws)) E s := by
  refine enter (name := "concat") (f := 107) (i := 14) (n := 0) (binds := [(Str.ofString "a", .ref a), (Str.ofString "b", .ref b)]) (by decide) O Ro (fun pm => by rfl) ?_ (by rfl) (by rfl) (by rfl) (by rfl) ?_
  · intro x hx
    simp only [List.mem_cons, List.not_mem_nil, or_false] at hx
    rcases hx with rfl | rfl
    · exact k_concat_a
    · exact k_concat_b
  intro L hL G Rd
  have ha0 := hideT_get ha (O.notTab ha hao.lo.cls)
  have hb0 := hideT_get hb (O.notTab hb hbo.lo.cls)
  refine WB.cm entry2 ?_
  show WB _ _ _ _ _ _ _ (execs (_ :: _ :: []) _) _
  refine ex_if ?_
  refine t_not (t_call ?_)
  refine e_callb G ks_concat k_concat_hasattr (id := "hasattr") (by decide) rfl ?_
  repeat tb_rel
  refine e_str ?_
  intro _
  repeat tb_rel
  refine c_has_l (.inl ha0) hao ?_
  repeat tb_rel
  show WB _ _ _ _ _ _ _ (execs (_ :: []) _) _
  repeat tb_rel
  refine l_add (.inl ha0) hao (.inl hb0) hbo hz fun r fr => exI2 r _ ⟨rfl, .head _, 0, rfl⟩
theorem f_count {ι : Type} {av : Value} {y : Str} {u : Tok} (O : OkAt mg mb g0 s) (Ro : Room A 1) (lo : List (Addr × Obj)) (tx : ι → Str) (f : ι → Value → Prop) (xs : List ι) (T : Nat) (hu : u ≠ 0) (hT : T ≤ s.toks)
    (hlo : ∀ p ∈ lo, s.heap.get? p.1 = some p.2 ∧ p.2.cls ≠ .none)
    (hit : ∀ (A' : Around) (h₀ : Heap) (L : Addr) (m : Loc) (N : Led) (Q : Value → Loc → Led → Prop), A'.handled = none → (∀ p ∈ lo, At h₀ N p.1 p.2) → (∀ I o, Yield g0 A' T I lo (xs.map f) o → Q (.ref I) m ((I, o) :: N)) → WB g0 A' (fun _ _ => False) h₀ L m N (pyIter av) Q)
    (hf : ∀ i v, f i v → ∃ t, v = .str (tx i) t ∧ t ≠ 0 ∧ (t = u → tx i = y)) :
    wpAny (model g0.prog g0.w) A (call (.ref 115) [av, .str y u]) (Back g0 s.heap (RInt ((xs.countP fun i => tx i == y : Nat) : Int))) E s := by
  refine enterF (name := "countOf") (f := 114) (i := 15) (n := 0) (binds := [(Str.ofString "a", av), (Str.ofString "b", .str y u)]) (by decide) O Ro (fun pm => by rfl) ?_ (by rfl) (by rfl) (by rfl) (by rfl) ?_
  · intro x hx
    simp only [List.mem_cons, List.not_mem_nil, or_false] at hx
    rcases hx with rfl | rfl
    · exact k_countOf_a
    · exact k_countOf_b
  intro L hL G Rd
  refine WB.cm (congrArg (fun z => setF z _) entry2) ?_
  have hlo0 : ∀ p ∈ lo, (hideT s.heap).get? p.1 = some p.2 := fun p hp => hideT_get (hlo p hp).1 (O.notTab (hlo p hp).1 (hlo p hp).2)
  show WB _ _ _ _ _ _ _ (execs (_ :: _ :: _ :: []) _) _
  refine ex_assignL ks_countOf k_countOf_count ?_
  repeat tb_rel
  refine ex_forX lo f xs (fun r m N => ∃ (c : Int) (k : Tok), m (Str.ofString "count") = some (.int c k) ∧ m (Str.ofString "b") = some (.str y u) ∧ c + (r.countP fun i => tx i == y : Nat) = (xs.countP fun i => tx i == y : Nat) ∧ T ≤ flo m) T ks_countOf k_countOf_i ?_ (fun r m N j p hp => .inl (hlo0 p hp)) ?_ ?_ (hT := fun r m N ⟨c, k, a, b, d, e⟩ => e)
  · repeat tb_rel
    refine hit _ _ _ _ _ _ Rd.handled (fun p hp => .inl (hlo0 p hp)) fun I o hY => exI3 I o _ ⟨rfl, rfl, hY, 0, _, by kwd_inv, by kwd_inv, by omega, by simp only [flo_updK, flo_setF, String.reduceEq, if_false]; exact hT⟩
  · intro i r m N v e_1 hv
    refine via fun ξ κ=>?_
    obtain ⟨c, k, hmc, hmb, hsum, hfl⟩ := e_1
    refine κ ?_;clear κ ξ
    refine via fun ξ κ=>?_
    obtain ⟨t, e_2, ht0, htu⟩ := hf i v hv
    refine κ ?_;clear κ ξ
    subst e_2
    have tail : ∀ (c' : Int) (k' : Tok) (m' : Loc) (N' : Led), m' (Str.ofString "count") = some (.int c' k') → m' (Str.ofString "b") = some (.str y u) → c' = c + (if tx i == y then 1 else 0) → T ≤ flo m' →
        ∃ (c : Int) (k : Tok), m' (Str.ofString "count") = some (.int c k) ∧ m' (Str.ofString "b") = some (.str y u) ∧ c + (r.countP fun i => tx i == y : Nat) = (xs.countP fun i => tx i == y : Nat) ∧ T ≤ flo m' := fun c' k' m' N' h1 h2 h3 h4 =>
      ⟨c', k', h1, h2, by rw [h3, ← hsum, List.countP_cons]; split <;> simp_all <;> omega, h4⟩
    refine ex_ifJ (fun m' N' => ∃ (c : Int) (k : Tok), m' (Str.ofString "count") = some (.int c k) ∧ m' (Str.ofString "b") = some (.str y u) ∧ c + (r.countP fun i => tx i == y : Nat) = (xs.countP fun i => tx i == y : Nat) ∧ T ≤ flo m') ?_ (fun m' N' j => ex_nil j)
    refine t_or ?_
    refine t_or_cons ?_
    refine t_cmp ?_
    refine e_local ks_countOf k_countOf_i (by kwd_inv) ?_
    refine e_local ks_countOf k_countOf_b (v := .str y u) (by kwd_inv) ?_
    refine s_is G ht0 hu htu fun b hb => truthy_b ?_
    have hc' : upd m (Str.ofString "i") (.str (tx i) t) (Str.ofString "count") = some (.int c k) := by kwd_inv
    have hb' : upd m (Str.ofString "i") (.str (tx i) t) (Str.ofString "b") = some (.str y u) := by kwd_inv
    have hi' : upd m (Str.ofString "i") (.str (tx i) t) (Str.ofString "i") = some (.str (tx i) t) := by kwd_inv
    have hf' : T ≤ flo (upd m (Str.ofString "i") (.str (tx i) t)) := by simp only [flo_updK, String.reduceEq, if_false]; exact hfl
    generalize upd m (Str.ofString "i") (.str (tx i) t) = m2 at *
    cases b with
    | true =>
      have e := hb rfl
      show WB _ _ _ _ _ _ _ (execs (_ :: []) _) _
      refine ex_augL ks_countOf k_countOf_count hc' ?_
      repeat tb_rel
      refine ex_nil ⟨rfl, tail (c + 1) _ _ N (by kwd_inv) (by kwd_inv) (by simp [e]) (by simp only [flo_updK, String.reduceEq, if_false]; exact hf')⟩
    | false =>
      refine t_or_one ?_
      refine t_cmp ?_
      refine e_local ks_countOf k_countOf_i hi' ?_
      refine e_local ks_countOf k_countOf_b hb' ?_
      refine s_eq (truthy_b ?_)
      by_cases e : tx i = y
      · have e1 : ((tx i).cps.toList == y.cps.toList) = true := by rw [e]; simp
        refine (Eq.symm e1) ▸ ?_
        show WB _ _ _ _ _ _ _ (execs (_ :: []) _) _
        refine ex_augL ks_countOf k_countOf_count hc' ?_
        repeat tb_rel
        refine ex_nil ⟨rfl, tail (c + 1) _ _ N (by kwd_inv) (by kwd_inv) (by simp [e]) (by simp only [flo_updK, String.reduceEq, if_false]; exact hf')⟩
      · have e1 : ((tx i).cps.toList == y.cps.toList) = false := by
          rw [beq_eq_false_iff_ne]; intro h; apply e
          have : (tx i).cps = y.cps := Array.toList_inj.mp h
          cases hx : tx i; cases y; rw [hx] at this; simp_all
        refine (Eq.symm e1) ▸ ?_
        exact ex_nil ⟨rfl, tail c k _ N hc' hb' (by simp [e]) hf'⟩
  · intro m N e_3
    refine via fun ξ κ=>?_
    obtain ⟨c, k, hmc, hmb, hsum, hfl⟩ := e_3
    refine κ ?_;clear κ ξ
    refine ex_ret ?_
    refine e_local ks_countOf k_countOf_count hmc ?_
    refine ⟨k, ?_⟩
    rw [← hsum]; simp
end
end Mine

end

section
open PySem PySem.W PyProof.Rows
namespace Mine
noncomputable abbrev rngObj (a b : Int) (t u v : Tok) : Obj := { cls := .type "range", data := .fields #[.int a t, .int b u, .int 1 v] }
noncomputable def RngP (h₀ : Heap) (a : Int) (n : Nat) (v : Value) (m : Loc) (N : Led) (J : Nat → Loc → Led → Prop) : Prop := ∃ r b t u v', v = .ref r ∧ At h₀ N r (rngObj a b t u v') ∧ n = (b - a).toNat ∧ -(2 ^ 60) ≤ b ∧ J 0 m N
theorem rngI {h₀ : Heap} {a : Int} {n : Nat} {m : Loc} {N : Led} {J : Nat → Loc → Led → Prop} (r : Addr) (b : Int) (t u v' : Tok) (x : At h₀ N r (rngObj a b t u v')) (y : n = (b - a).toNat) (z : -(2 ^ 60) ≤ b) (j : J 0 m N) : RngP h₀ a n (.ref r) m N J := ⟨r, b, t, u, v', rfl, x, y, z, j⟩
open Builtin.Int (intBits)
section
variable {prog : Program} {w : World} {g0 : Cx} {mg mb : Loc} {A : Around} {h₀ : Heap} {L : Addr} {m : Loc} {N : Led}
variable {cn : Str} {cs : Scope} {a0 : Addr} {ccd : Value} {cl : List (Str × Addr)}
end
namespace hex_forNE
noncomputable def st_ (g0 : Mine.Cx) (A : PySem.Around) (h₀ : PySem.Heap) (L : PySem.Addr) (m : Mine.Loc) (N : Mine.Led) (cn : PySem.Str) (cs : PySem.Scope) (a0 : PySem.Addr) (ccd : PySem.Value) (cl : List (PySem.Str × PySem.Addr)) (Eb Et : PySem.Value → PySem.Shared → Prop) (x : PySem.Str) (px pos : PySem.Pos) (iter : PySem.Expr) (body rest : List PySem.Stmt) (Q : PySem.Flow → Mine.Loc → Mine.Led → Prop) (a : Int) (n : Nat) (J : Nat → Mine.Loc → Mine.Led → Prop) : Prop := ∀ (hh : A.handled = none) (hk : cs.kind = .function) (hx : cs.names.lookup x = some .local) (ha : -(2 ^ 60) ≤ a) (ha' : a + n ≤ 2 ^ 60) (h : WB g0 A (fun _ _ => False) h₀ L m N (eval iter (envX cn cs L a0 ccd cl)) fun v m1 N1 => RngP h₀ a n v m1 N1 J) (turn : ∀ i m N t, i < n → J i m N → WB g0 A Et h₀ L (upd m x (.int (a + i) t)) N (execs body (envX cn cs L a0 ccd cl)) (LoopP J (i + 1) (fun m' N' => WB g0 A Eb h₀ L m' N' (execs rest (envX cn cs L a0 ccd cl)) Q) fun v => Q (.ret v))) (done : ∀ m N, J n m N → WB g0 A Eb h₀ L m N (execs rest (envX cn cs L a0 ccd cl)) Q) (hE : ∀ e s', Et e s' → notedBy (model g0.prog g0.w) A (envX cn cs L a0 ccd cl) (cameBackBy (model g0.prog g0.w) A (envX cn cs L a0 ccd cl) Eb) e s') (hs : ∀ x, foldedSetIterable iter (envX cn cs L a0 ccd cl) x = pure x) (hfk : (x == floorKey) = false), WB g0 A Eb h₀ L m N (execs (.For (.Name x px) iter body [] pos :: rest) (envX cn cs L a0 ccd cl)) Q
noncomputable abbrev T_ := ((((Mine.Cx × PySem.Around) × (PySem.Heap × (PySem.Addr × Mine.Loc))) × ((Mine.Led × (PySem.Str × PySem.Scope)) × (PySem.Addr × (PySem.Value × (List (PySem.Str × PySem.Addr)))))) × ((((PySem.Value → PySem.Shared → Prop) × ((PySem.Value → PySem.Shared → Prop) × PySem.Str)) × (PySem.Pos × (PySem.Pos × PySem.Expr))) × (((List PySem.Stmt) × ((List PySem.Stmt) × (PySem.Flow → Mine.Loc → Mine.Led → Prop))) × (Int × (Nat × (Nat → Mine.Loc → Mine.Led → Prop))))))
theorem ne_ : Nonempty T_ := ⟨by repeat' (first | apply Prod.mk | exact default | exact nAr | exact nCx | exact nSh | constructor)⟩
noncomputable def Q_ (p : T_) : Prop := st_ p.1.1.1.1 p.1.1.1.2 p.1.1.2.1 p.1.1.2.2.1 p.1.1.2.2.2 p.1.2.1.1 p.1.2.1.2.1 p.1.2.1.2.2 p.1.2.2.1 p.1.2.2.2.1 p.1.2.2.2.2 p.2.1.1.1 p.2.1.1.2.1 p.2.1.1.2.2 p.2.1.2.1 p.2.1.2.2.1 p.2.1.2.2.2 p.2.2.1.1 p.2.2.1.2.1 p.2.2.1.2.2 p.2.2.2.1 p.2.2.2.2.1 p.2.2.2.2.2
noncomputable def w_ : T_ := @Classical.epsilon _ ne_ fun p => ¬ Q_ p
noncomputable def m := w_.1.1.2.2.2
noncomputable def N := w_.1.2.1.1
noncomputable def a := w_.2.2.2.1
noncomputable def n := w_.2.2.2.2.1
noncomputable def J := w_.2.2.2.2.2
theorem main_ : st_ w_.1.1.1.1 w_.1.1.1.2 w_.1.1.2.1 w_.1.1.2.2.1 m N w_.1.2.1.2.1 w_.1.2.1.2.2 w_.1.2.2.1 w_.1.2.2.2.1 w_.1.2.2.2.2 w_.2.1.1.1 w_.2.1.1.2.1 w_.2.1.1.2.2 w_.2.1.2.1 w_.2.1.2.2.1 w_.2.1.2.2.2 w_.2.2.1.1 w_.2.2.1.2.1 w_.2.2.1.2.2 a n J := by
  intro hh hk hx ha ha' h turn done hE hs hfk
  refine ex_forXE [] (rngP a) (List.range' 0 n) (fun r m N => ∃ i, r = List.range' i (n - i) ∧ i ≤ n ∧ J i m N) 0 hk hx (h.mono fun v m1 N1 x_ => ?_) (fun r m N j p hp => nomatch hp) ?_ ?_ hE hs hfk
  · refine exE5 x_ fun r b t u v' h_0 => anE5 h_0 fun e hat hn hb j => ?_
    clear h_0 x_
    subst e
    refine it_rangeO (T := 0) hh hat ha (by omega) hb (by omega) fun I o _ hY => ⟨I, o, _, rfl, rfl, ?_, 0, rfl, Nat.zero_le _, j⟩
    rw [← List.range_eq_range', hn]; exact hY
  · rintro i0 r m N v ⟨i, e, hi, j⟩ ⟨t, rfl⟩
    obtain ⟨k, hk'⟩ : ∃ k, n - i = k + 1 := by
      cases hni : n - i with
      | zero => rw [hni] at e; cases e
      | succ k => exact ⟨k, rfl⟩
    rw [hk', List.range'_succ] at e
    obtain ⟨rfl, rfl⟩ := List.cons.inj e
    refine (turn i0 m N t (by omega) j).mono fun f m' N' q => ?_
    cases f with
    | next => exact ⟨i0 + 1, by rw [show n - (i0 + 1) = k by omega], by omega, q⟩
    | cont => exact ⟨i0 + 1, by rw [show n - (i0 + 1) = k by omega], by omega, q⟩
    | brk => exact q
    | ret v => exact q
  · rintro m N ⟨i, e, hi, j⟩
    have : n - i = 0 := by cases hni : n - i with
      | zero => rfl
      | succ k => rw [hni, List.range'_succ] at e; cases e
    have : i = n := by omega
    subst this
    exact done m N j
end hex_forNE
section
variable {prog : Program} {w : World} {g0 : Cx} {mg mb : Loc} {A : Around} {h₀ : Heap} {L : Addr} {m : Loc} {N : Led}
variable {cn : Str} {cs : Scope} {a0 : Addr} {ccd : Value} {cl : List (Str × Addr)}
theorem ex_forNE {Eb Et : Value → Shared → Prop} {x : Str} {px pos : Pos} {iter : Expr} {body rest : List Stmt} {Q : Flow → Loc → Led → Prop} (a : Int) (n : Nat) (J : Nat → Loc → Led → Prop) (hh : A.handled = none)
    (hk : cs.kind = .function) (hx : cs.names.lookup x = some .local) (ha : -(2 ^ 60) ≤ a) (ha' : a + n ≤ 2 ^ 60)
    (h : WB g0 A (fun _ _ => False) h₀ L m N (eval iter (envX cn cs L a0 ccd cl)) fun v m1 N1 => RngP h₀ a n v m1 N1 J)
    (turn : ∀ i m N t, i < n → J i m N → WB g0 A Et h₀ L (upd m x (.int (a + i) t)) N (execs body (envX cn cs L a0 ccd cl)) (LoopP J (i + 1) (fun m' N' => WB g0 A Eb h₀ L m' N' (execs rest (envX cn cs L a0 ccd cl)) Q) fun v => Q (.ret v)))
    (done : ∀ m N, J n m N → WB g0 A Eb h₀ L m N (execs rest (envX cn cs L a0 ccd cl)) Q)
    (hE : ∀ e s', Et e s' → notedBy (model g0.prog g0.w) A (envX cn cs L a0 ccd cl) (cameBackBy (model g0.prog g0.w) A (envX cn cs L a0 ccd cl) Eb) e s')
    (hs : ∀ x, foldedSetIterable iter (envX cn cs L a0 ccd cl) x = pure x := by intro _; rfl) (hfk : (x == floorKey) = false := by decide) :
    WB g0 A Eb h₀ L m N (execs (.For (.Name x px) iter body [] pos :: rest) (envX cn cs L a0 ccd cl)) Q := Mine.hk hex_forNE.ne_ (P := hex_forNE.Q_) hex_forNE.main_ ((((g0, A), (h₀, (L, m))), ((N, (cn, cs)), (a0, (ccd, cl)))), (((Eb, (Et, x)), (px, (pos, iter))), ((body, (rest, Q)), (a, (n, J))))) hh hk hx ha ha' h turn done hE hs hfk
theorem ex_forN {x : Str} {px pos : Pos} {iter : Expr} {body rest : List Stmt} {Q : Flow → Loc → Led → Prop} (a : Int) (n : Nat) (J : Nat → Loc → Led → Prop) (hh : A.handled = none)
    (hk : cs.kind = .function) (hx : cs.names.lookup x = some .local) (ha : -(2 ^ 60) ≤ a) (ha' : a + n ≤ 2 ^ 60)
    (h : WB g0 A (fun _ _ => False) h₀ L m N (eval iter (envX cn cs L a0 ccd cl)) fun v m1 N1 => RngP h₀ a n v m1 N1 J)
    (turn : ∀ i m N t, i < n → J i m N → WB g0 A (fun _ _ => False) h₀ L (upd m x (.int (a + i) t)) N (execs body (envX cn cs L a0 ccd cl)) (LoopP J (i + 1) (fun m' N' => WB g0 A (fun _ _ => False) h₀ L m' N' (execs rest (envX cn cs L a0 ccd cl)) Q) fun v => Q (.ret v)))
    (done : ∀ m N, J n m N → WB g0 A (fun _ _ => False) h₀ L m N (execs rest (envX cn cs L a0 ccd cl)) Q)
    (hs : ∀ x, foldedSetIterable iter (envX cn cs L a0 ccd cl) x = pure x := by intro _; rfl) (hfk : (x == floorKey) = false := by decide) :
    WB g0 A (fun _ _ => False) h₀ L m N (execs (.For (.Name x px) iter body [] pos :: rest) (envX cn cs L a0 ccd cl)) Q :=
  ex_forNE a n J hh hk hx ha ha' h turn done (fun _ _ q => q.elim) hs hfk
theorem f_ints {n : Nat} {p : Nat → Int} {vs : List Value} (h : Ints vs ((List.range n).map p)) {i : Nat} (hi : i < n) : ∃ t, vs[i]? = some (.int (p i) t) := h.get (by rw [List.getElem?_map, List.getElem?_range hi]; rfl)
end
end Mine

end

section
open PySem PySem.W PyProof.Rows
namespace Mine
open Builtin.Int (intBits)
noncomputable def NA (p e : Nat → Int) (k : Nat) : Nat → Int
  | 0 => 0
  | j + 1 => if (j + 1) % 2 = 1 then NA p e k j + e (k - (j + 1)) * p (j + 1) else NA p e k j - e (k - (j + 1)) * p (j + 1)
theorem bits_abs {x : Int} {k : Nat} (h1 : -(2 ^ k) < x) (h2 : x < 2 ^ k) : intBits x ≤ k := intBits_le_iff.mpr (by
  have : ((x.natAbs : Nat) : Int) < ((2 ^ k : Nat) : Int) := by rw [kbt_cast]; omega
  omega)
theorem mul_bd {x y a b : Int} (hx : -a ≤ x) (hx' : x ≤ a) (hy : -b ≤ y) (hy' : y ≤ b) : -(a * b) ≤ x * y ∧ x * y ≤ a * b := by
  have ha : 0 ≤ a := by omega
  have hb : 0 ≤ b := by omega
  constructor
  · have h1 : 0 ≤ (a + x) * (b + y) := Int.mul_nonneg (by omega) (by omega)
    have h2 : 0 ≤ (a - x) * (b - y) := Int.mul_nonneg (by omega) (by omega)
    rw [Int.add_mul, Int.mul_add, Int.mul_add] at h1
    rw [Int.sub_mul, Int.mul_sub, Int.mul_sub] at h2
    omega
  · have h1 : 0 ≤ (a + x) * (b - y) := Int.mul_nonneg (by omega) (by omega)
    have h2 : 0 ≤ (a - x) * (b + y) := Int.mul_nonneg (by omega) (by omega)
    rw [Int.add_mul, Int.mul_sub, Int.mul_sub] at h1
    rw [Int.sub_mul, Int.mul_add, Int.mul_add] at h2
    omega
theorem big_bits {R far near : Int} {n : Nat} (h1 : -(2 ^ 63) ≤ R) (h2 : R ≤ 2 ^ 63) (h3 : 0 ≤ near) (h4 : near < far) (h5 : far < 2 ^ n) : intBits (R * far + near) ≤ n + 64 := by
  have hP := p2pos n
  have hm := mul_bd h1 h2 (show -(2 ^ n) ≤ far by omega) (Int.le_of_lt h5)
  have e : (2 : Int) ^ (n + 64) = 2 ^ n * 18446744073709551616 := by rw [p2add]; rfl
  have e63 : (2 : Int) ^ 63 = 9223372036854775808 := by decide
  rw [e63] at hm
  refine bits_abs ?_ ?_ <;> rw [e] <;> omega
theorem NA_bd {p e : Nat → Int} {n k : Nat} (hk : k < n) (hb : ∀ i, i < n → (-(2 ^ 30) ≤ p i ∧ p i ≤ 2 ^ 30) ∧ (-(2 ^ 30) ≤ e i ∧ e i ≤ 2 ^ 30)) : ∀ j, j ≤ k → -(2 ^ 60 * j) ≤ NA p e k j ∧ NA p e k j ≤ 2 ^ 60 * (j : Int)
  | 0, _ => by simp [NA]
  | j + 1, hj => by
    have ih := NA_bd hk hb j (by omega)
    have h1 := hb (k - (j + 1)) (by omega)
    have h2 := hb (j + 1) (by omega)
    have h3 := mul_bd h1.2.1 h1.2.2 h2.1.1 h2.1.2
    have e60 : (2 : Int) ^ 30 * 2 ^ 30 = 2 ^ 60 := by decide
    rw [e60] at h3
    rw [NA]
    have e1 : (2 : Int) ^ 60 * ((j + 1 : Nat) : Int) = 2 ^ 60 * (j : Int) + 2 ^ 60 := by push_cast; rw [Int.mul_add, Int.mul_one]
    refine (Eq.symm e1) ▸ ?_
    split <;> omega
section
variable {prog : Program} {w : World} {g0 : Cx} {mg mb : Loc} {A : Around} {E : Value → Shared → Prop} {s : Shared}
theorem fmod2 (j : Nat) : ((j : Int).fmod 2 == 1) = decide (j % 2 = 1) := by
  rw [fmod_pos (by decide)]
  rw [Bool.eq_iff_iff]; simp; omega
end
namespace hf_products_b
noncomputable def st_ (g0 : Mine.Cx) (mg mb : Mine.Loc) (A : PySem.Around) (s : PySem.Shared) (pl : PySem.Addr) (po : PySem.Obj) (pvs : List PySem.Value) (p e : Nat → Int) (n : Nat) (far near : Int) (t u : PySem.Tok) (L : PySem.Addr) : Prop := ∀ (O : OkAt mg mb g0 s) (Ro : Room A 30) (hpl : s.heap.get? pl = some po) (hpo : LO po pvs) (hI : Ints pvs ((List.range n).map p)) (hn : 1 ≤ n) (hn8 : n ≤ 8) (he0 : e 0 = 1) (hNe : ∀ k, 1 ≤ k → k < n → NA p e k k = k * e k) (hb : ∀ i, i < n → (-(2 ^ 30) ≤ p i ∧ p i ≤ 2 ^ 30) ∧ (-(2 ^ 30) ≤ e i ∧ e i ≤ 2 ^ 30)) (hfar : far < 2 ^ 4500) (hnear : 0 ≤ near) (hnf : near < far), EntB g0 mg mb "_law_products" 181 29 (29) [(Str.ofString "powers", .ref pl), (Str.ofString "far", .int far t), (Str.ofString "near", .int near u)] (fun v new => ∃ r ro ws, v = .ref r ∧ (r, ro) ∈ new ∧ LX ro ws ∧ Ints ws ((List.range n).map e)) A s L
noncomputable abbrev T_ := ((((Mine.Cx × Mine.Loc) × (Mine.Loc × PySem.Around)) × ((PySem.Shared × PySem.Addr) × (PySem.Obj × (List PySem.Value)))) × ((((Nat → Int) × (Nat → Int)) × (Nat × Int)) × ((Int × PySem.Tok) × (PySem.Tok × PySem.Addr))))
theorem ne_ : Nonempty T_ := ⟨by repeat' (first | apply Prod.mk | exact default | exact nAr | exact nCx | exact nSh | constructor)⟩
noncomputable def Q_ (p : T_) : Prop := st_ p.1.1.1.1 p.1.1.1.2 p.1.1.2.1 p.1.1.2.2 p.1.2.1.1 p.1.2.1.2 p.1.2.2.1 p.1.2.2.2 p.2.1.1.1 p.2.1.1.2 p.2.1.2.1 p.2.1.2.2 p.2.2.1.1 p.2.2.1.2 p.2.2.2.1 p.2.2.2.2
noncomputable def w_ : T_ := @Classical.epsilon _ ne_ fun p => ¬ Q_ p
noncomputable def pl := w_.1.2.1.2
noncomputable def po := w_.1.2.2.1
noncomputable def pvs := w_.1.2.2.2
noncomputable def p := w_.2.1.1.1
noncomputable def e := w_.2.1.1.2
noncomputable def n := w_.2.1.2.1
noncomputable def far := w_.2.1.2.2
noncomputable def near := w_.2.2.1.1
noncomputable def t := w_.2.2.1.2
noncomputable def u := w_.2.2.2.1
set_option maxHeartbeats 1000000 in
theorem main_ : st_ w_.1.1.1.1 w_.1.1.1.2 w_.1.1.2.1 w_.1.1.2.2 w_.1.2.1.1 pl po pvs p e n far near t u w_.2.2.2.2 := by
  intro O Ro hpl hpo hI hn hn8 he0 hNe hb hfar hnear hnf
  intro hL G Rd
  have hpl0 := hideT_get hpl (O.notTab hpl hpo.cls)
  refine WB.cm entry3 ?_
  have hlen : pvs.length = n := by rw [hI.length]; simp
  show WB _ _ _ _ _ _ _ (execs (_ :: _ :: _ :: []) _) _
  refine ex_assignL ks__law_products k__law_products_products ?_
  refine e_list rfl ?_
  repeat tb_rel
  refine ⟨by simp, fun ql fql => ?_⟩
  have base : ∀ (m : Loc), (m (Str.ofString "powers") = some (.ref pl) ∧ m (Str.ofString "far") = some (.int far t) ∧ m (Str.ofString "near") = some (.int near u)) → True := fun _ _ => trivial
  refine ex_forN 1 (n - 1) (fun i m N => ∃ qo ws, m (Str.ofString "powers") = some (.ref pl) ∧ m (Str.ofString "far") = some (.int far t) ∧ m (Str.ofString "near") = some (.int near u) ∧ m (Str.ofString "products") = some (.ref ql) ∧ (ql, qo) ∈ N ∧ LX qo ws ∧ Ints ws ((List.range (i + 1)).map e)) Rd.handled ks__law_products k__law_products_k (by decide) (by omega) ?_ ?_ ?_
  · refine e_callt G ks__law_products k__law_products_range (id := "range") (by decide) rfl ?_
    repeat tb_rel
    refine e_callb G ks__law_products k__law_products_len (id := "len") (by decide) rfl ?_
    repeat tb_rel
    refine c_lenL (.inl hpl0) hpo (by omega) fun _ => ?_
    repeat tb_rel
    refine c_range2 fun r t1 u1 v1 _ => rngI r _ t1 u1 v1 (.inr (.head _)) (by rw [hlen]; omega) (by omega) (exI2 _ _ ⟨by kwd_inv, by kwd_inv, by kwd_inv, by kwd_inv, .tail _ (.head _), ⟨0, rfl⟩, ?_⟩)
    have : (List.range (0 + 1)).map e = [1] := by simp [List.range_succ, he0]
    rw [this]; exact Ints.nil.cons
  · intro i m N tk hi hJ
    refine WB.seal fun Q1 hQ1 => ?_
    refine exE2 hJ fun qo ws h_0 => anE7 h_0 fun hmp hmf hmn hmq hq hqo hIq => ?_
    clear h_0 hJ
    have hwl : ws.length = i + 1 := by rw [hIq.length]; simp
    refine ex_assignL ks__law_products k__law_products_right ?_
    repeat tb_rel
    refine ex_forN 1 (i + 1) (fun j m N => ∃ k1 k2, m (Str.ofString "powers") = some (.ref pl) ∧ m (Str.ofString "far") = some (.int far t) ∧ m (Str.ofString "near") = some (.int near u) ∧ m (Str.ofString "products") = some (.ref ql) ∧ m (Str.ofString "k") = some (.int (1 + i) k1) ∧ m (Str.ofString "right") = some (.int (NA p e (i + 1) j) k2) ∧ (ql, qo) ∈ N) Rd.handled ks__law_products k__law_products_j (by decide) (by omega) ?_ ?_ ?_
    · refine e_callt G ks__law_products k__law_products_range (id := "range") (by decide) rfl ?_
      repeat tb_rel
      refine c_range2 fun r t1 u1 v1 _ => rngI r _ t1 u1 v1 (.inr (.head _)) (by omega) (by omega) (exI2 _ _ ⟨?_, ?_, ?_, ?_, by kwd_inv, by kwd_inv, .tail _ hq⟩)
      all_goals (kwd_inv)
    · intro j m N tj hj hJ
      refine WB.seal fun Q2 hQ2 => ?_
      refine exE2 hJ fun k1 k2 h_0 => anE7 h_0 fun hmp hmf hmn hmq hmk hmr hq => ?_
      clear h_0 hJ
      refine ex_assignL ks__law_products k__law_products_term ?_
      refine e_callf G ks__law_products k__law_products_mul (i := 11) (f := 86) (by decide) rfl ?_
      refine args_cons ?_
      refine e_subL ?_
      refine e_local ks__law_products k__law_products_products (v := .ref ql) (by kwd_inv) ?_
      refine e_bin ?_
      refine e_local ks__law_products k__law_products_k (v := .int (1 + i) k1) (by kwd_inv) ?_
      refine e_local ks__law_products k__law_products_j (by kwd_inv) ?_
      refine i_sub fun t3 => ?_
      refine exE1 (f_ints hIq (i := i - j) (by omega)) fun te hte => ?_
      have ekj : (1 + (i : Int) - (1 + (j : Int))).toNat = i - j := by omega
      refine subI ql qo ws _ t3 _ (.inr hq) hqo.lo (by omega) (by omega) (by rw [ekj]; exact hte) ?_
      refine args_cons ?_
      refine e_subL ?_
      refine e_local ks__law_products k__law_products_powers (v := .ref pl) (by kwd_inv) ?_
      refine e_local ks__law_products k__law_products_j (by kwd_inv) ?_
      refine exE1 (f_ints hI (i := j + 1) (by omega)) fun tp htp => ?_
      have ej : (1 + (j : Int)).toNat = j + 1 := by omega
      refine subI pl po pvs _ tj _ (.inl hpl0) hpo (by omega) (by omega) (by rw [ej]; exact htp) ?_
      refine args_nil ?_
      have b1 := hb (i - j) (by omega)
      have b2 := hb (j + 1) (by omega)
      refine WB.callI (z := (e (i - j) * p (j + 1))) G (fun s' O' _ => f_mul O' (Rd.le (by omega)) (mul_ok (m := 31) (n := 31) (bits_abs (by omega) (by omega)) (bits_abs (by omega) (by omega)) (by omega))) ?_
      intro t4 new
      refine ex_ifK (fun m' N' => ∃ k1 k2, m' (Str.ofString "powers") = some (.ref pl) ∧ m' (Str.ofString "far") = some (.int far t) ∧ m' (Str.ofString "near") = some (.int near u) ∧ m' (Str.ofString "products") = some (.ref ql) ∧ m' (Str.ofString "k") = some (.int (1 + i) k1) ∧ m' (Str.ofString "right") = some (.int (NA p e (i + 1) (j + 1)) k2) ∧ (ql, qo) ∈ N') ?_ (fun m' N' j => ex_nil (hQ2 _ _ _ j))
      intro Q3 hQ3
      have hmr' : upd (upd m (Str.ofString "j") (.int (1 + j) tj)) (Str.ofString "term") (.int (e (i - j) * p (j + 1)) t4) (Str.ofString "right") = some (.int (NA p e (i + 1) j) k2) := by kwd_inv
      repeat tb_rel
      refine i_mod (by decide) fun t5 => ?_
      repeat tb_rel
      have e2 : ((1 + (j : Int)).fmod 2 == 1) = decide ((j + 1) % 2 = 1) := by
        rw [show (1 + (j : Int)) = ((j + 1 : Nat) : Int) by omega, fmod2]
      have hNA : NA p e (i + 1) (j + 1) = if (j + 1) % 2 = 1 then NA p e (i + 1) j + e (i - j) * p (j + 1) else NA p e (i + 1) j - e (i - j) * p (j + 1) := by
        rw [NA, show i + 1 - (j + 1) = i - j by omega]
      refine (Eq.symm e2) ▸ ?_
      by_cases h2 : (j + 1) % 2 = 1
      · refine if_t2 (decide_eq_true h2) ?_
        show WB _ _ _ _ _ _ _ (execs (_ :: []) _) _
        refine ex_assignL ks__law_products k__law_products_right ?_
        refine e_callf G ks__law_products k__law_products_add (i := 10) (f := 79) (by decide) rfl ?_
        refine args_cons (e_local ks__law_products k__law_products_right hmr' ?_)
        repeat tb_rel
        refine WB.callI G (fun s' O' _ => f_add O' (Rd.le (by omega))) ?_
        intro t6 new2
        refine ex_nil <| hQ3 _ _ (exI2 k1 t6 ⟨?_, ?_, ?_, ?_, ?_, by rw [hNA, if_pos h2]; kwd_inv, List.mem_append_right _ (List.mem_append_right _ hq)⟩)
        all_goals (kwd_inv)
      · refine if_f2 (decide_eq_false h2) ?_
        show WB _ _ _ _ _ _ _ (execs (_ :: []) _) _
        refine ex_assignL ks__law_products k__law_products_right ?_
        refine e_callf G ks__law_products k__law_products_sub (i := 13) (f := 100) (by decide) rfl ?_
        refine args_cons (e_local ks__law_products k__law_products_right hmr' ?_)
        repeat tb_rel
        refine WB.callI G (fun s' O' _ => f_sub O' (Rd.le (by omega))) ?_
        intro t6 new2
        refine ex_nil <| hQ3 _ _ (exI2 k1 t6 ⟨?_, ?_, ?_, ?_, ?_, by rw [hNA, if_neg h2]; kwd_inv, List.mem_append_right _ (List.mem_append_right _ hq)⟩)
        all_goals (kwd_inv)
    · intro m N e_1
      refine exE2 e_1 fun k1 k2 h_0 => anE7 h_0 fun hmp hmf hmn hmq hmk hmr hq => ?_
      clear h_0 e_1
      rw [hNe (i + 1) (by omega) (by omega)] at hmr
      have b1 := hb (i + 1) (by omega)
      have bR := NA_bd (k := i + 1) (n := n) (by omega) hb (i + 1) (Nat.le_refl _)
      rw [hNe (i + 1) (by omega) (by omega)] at bR
      have bR1 : -(2 ^ 63) ≤ ((i + 1 : Nat) : Int) * e (i + 1) := by
        have := bR.1; have e63 : (2 : Int) ^ 63 = 9223372036854775808 := by decide
        have e60 : (2 : Int) ^ 60 = 1152921504606846976 := by decide
        omega
      have bR2 : ((i + 1 : Nat) : Int) * e (i + 1) ≤ 2 ^ 63 := by
        have := bR.2; have e63 : (2 : Int) ^ 63 = 9223372036854775808 := by decide
        have e60 : (2 : Int) ^ 60 = 1152921504606846976 := by decide
        omega
      have hfp : 0 < far := by omega
      have bf : intBits far ≤ 4500 := bits_le (by omega) hfar
      refine ex_assign2 Rd.handled ks__law_products k__law_products_quotient k__law_products_rest ?_
      refine e_callf G ks__law_products k__law_products_int_divmod (i := 8) (f := 72) (by decide) rfl ?_
      refine args_cons ?_
      refine e_callf G ks__law_products k__law_products_add (i := 10) (f := 79) (by decide) rfl ?_
      refine args_cons ?_
      refine e_callf G ks__law_products k__law_products_mul (i := 11) (f := 86) (by decide) rfl ?_
      refine args_cons (e_local ks__law_products k__law_products_right hmr ?_)
      refine args_cons (e_local ks__law_products k__law_products_far hmf ?_)
      refine args_nil ?_
      refine WB.callI (z := (((i + 1 : Nat) : Int) * e (i + 1) * far)) G (fun s' O' _ => f_mul O' (Rd.le (by omega)) (mul_ok (m := 64) (n := 4500) (bits_abs (by omega) (by omega)) bf (by omega))) ?_
      intro t1 new1
      refine args_cons (e_local ks__law_products k__law_products_near hmn ?_)
      refine args_nil ?_
      refine WB.callI (z := (((i + 1 : Nat) : Int) * e (i + 1) * far + near)) G (fun s' O' _ => f_add O' (Rd.le (by omega))) ?_
      intro t2 new2
      refine args_cons ?_
      refine e_callf G ks__law_products k__law_products_mul (i := 11) (f := 86) (by decide) rfl ?_
      refine args_cons (e_local ks__law_products k__law_products_k hmk ?_)
      refine args_cons (e_local ks__law_products k__law_products_far hmf ?_)
      refine args_nil ?_
      refine WB.callI (z := ((1 + (i : Int)) * far)) G (fun s' O' _ => f_mul O' (Rd.le (by omega)) (mul_ok (m := 5) (n := 4500) (bits_abs (by omega) (by omega)) bf (by omega))) ?_
      intro t3 new3
      refine args_nil ?_
      have hk0 : 0 < (1 + (i : Int)) * far := Int.mul_pos (by omega) hfp
      have hkf : far ≤ (1 + (i : Int)) * far := by
        have := Int.mul_le_mul_of_nonneg_right (show 1 ≤ 1 + (i : Int) by omega) (Int.le_of_lt hfp)
        rwa [Int.one_mul] at this
      have b3 : intBits ((1 + (i : Int)) * far) ≤ 4500 + 64 := by
        have := big_bits (R := 1 + (i : Int)) (far := far) (near := 0) (n := 4500) (by omega) (by omega) (by omega) hfp hfar
        rwa [Int.add_zero] at this
      have b4 : intBits (((i + 1 : Nat) : Int) * e (i + 1) * far + near) ≤ 4500 + 64 := big_bits bR1 bR2 hnear hnf hfar
      have hdm := divmod_uniq (a := ((i + 1 : Nat) : Int) * e (i + 1) * far + near) (b := (1 + (i : Int)) * far) (q := e (i + 1)) (r := near) hk0 (by
        rw [show ((i + 1 : Nat) : Int) = 1 + (i : Int) by omega, Int.mul_comm (e (i + 1)), Int.mul_assoc (1 + (i : Int)) far, Int.mul_comm far, ← Int.mul_assoc]) hnear (by omega)
      refine WB.callDF (a := (((i + 1 : Nat) : Int) * e (i + 1) * far + near)) (b := ((1 + (i : Int)) * far)) G (fun s' O' _ => int_divmod O' (Rd.le (by omega)) (by omega) (Nat.le_trans b4 (by decide)) (Nat.le_trans b3 (by decide))) ?_
      intro r4 k4 k5 new4 hm4 _
      rw [fdiv_pos hk0, fmod_pos hk0, hdm.1, hdm.2] at hm4
      refine tupI r4 _ _ _ (.inr (List.mem_append_left _ hm4)) ?_
      have hmn' : upd (upd m (Str.ofString "quotient") (.int (e (i + 1)) k4)) (Str.ofString "rest") (.int near k5) (Str.ofString "near") = some (.int near u) := by kwd_inv
      refine ex_if ?_
      refine t_cmp ?_
      refine e_local ks__law_products k__law_products_rest (by kwd_inv) ?_
      refine e_local ks__law_products k__law_products_near hmn' ?_
      refine i_ne (truthy_b ?_)
      have en : (near != near) = false := by simp
      refine if_f1 (en) ?_
      show WB _ _ _ _ _ _ _ (execs (_ :: []) _) _
      refine ex_expr ?_
      refine e_meth attrBase_name rfl rfl ?_
      refine e_local ks__law_products k__law_products_products (v := .ref ql) (by kwd_inv) ?_
      intro pl'
      have hq4 : (ql, qo) ∈ new4 ++ (new3 ++ (new2 ++ (new1 ++ N))) := List.mem_append_right _ (List.mem_append_right _ (List.mem_append_right _ (List.mem_append_right _ hq)))
      refine g_lst slot_list_append type_list_append (.inr hq4) hqo ?_
      refine call_b1 rfl ?_
      refine args_cons (e_local ks__law_products k__law_products_quotient (by kwd_inv) ?_)
      refine args_nil ?_
      refine c_append hq4 hqo (by omega) fun qo' N' hLX hH hm' => ?_
      refine ex_nil <| hQ1 _ _ _ (exI2 qo' _ ⟨?_, ?_, ?_, ?_, hm', hLX, ?_⟩)
      · kwd_inv
      · kwd_inv
      · exact hmn'
      · kwd_inv
      · rw [List.range_succ, List.map_append]
        exact hIq.append Ints.nil.cons
  · intro m N e_2
    refine exE2 e_2 fun qo ws h_0 => anE7 h_0 fun _ _ _ hmq hq hqo hIq => ?_
    clear h_0 e_2
    refine ex_ret ?_
    refine e_local ks__law_products k__law_products_products hmq ?_
    exact exI3 ql qo ws ⟨rfl, hq, hqo, by rw [show n - 1 + 1 = n by omega] at hIq; exact hIq⟩
end hf_products_b
theorem f_products_b {g0 mg mb A s pl po pvs p e n far near t u L} : hf_products_b.st_ g0 mg mb A s pl po pvs p e n far near t u L := Mine.hk hf_products_b.ne_ (P := hf_products_b.Q_) hf_products_b.main_ ((((g0, mg), (mb, A)), ((s, pl), (po, pvs))), (((p, e), (n, far)), ((near, t), (u, L))))
section
variable {prog : Program} {w : World} {g0 : Cx} {mg mb : Loc} {A : Around} {E : Value → Shared → Prop} {s : Shared}
set_option maxHeartbeats 1000000 in
theorem f_products {pl : Addr} {po : Obj} {pvs : List Value} {p e : Nat → Int} {n : Nat} {far near : Int} {t u : Tok} (O : OkAt mg mb g0 s) (Ro : Room A 30) (hpl : s.heap.get? pl = some po) (hpo : LO po pvs) (hI : Ints pvs ((List.range n).map p)) (hn : 1 ≤ n) (hn8 : n ≤ 8)
    (he0 : e 0 = 1) (hNe : ∀ k, 1 ≤ k → k < n → NA p e k k = k * e k) (hb : ∀ i, i < n → (-(2 ^ 30) ≤ p i ∧ p i ≤ 2 ^ 30) ∧ (-(2 ^ 30) ≤ e i ∧ e i ≤ 2 ^ 30)) (hfar : far < 2 ^ 4500) (hnear : 0 ≤ near) (hnf : near < far) : wpAny (model g0.prog g0.w) A (call (.ref 182) [.ref pl, .int far t, .int near u]) (Back g0 s.heap fun v new => ∃ r ro ws, v = .ref r ∧ (r, ro) ∈ new ∧ LX ro ws ∧ Ints ws ((List.range n).map e)) E s := by
  refine enter (name := "_law_products") (f := 181) (i := 29) (n := 29) (binds := [(Str.ofString "powers", .ref pl), (Str.ofString "far", .int far t), (Str.ofString "near", .int near u)]) (by decide) O Ro (fun pm => by rfl) ?_ (by rfl) (by rfl) (by rfl) (by rfl) ?_
  · intro x hx
    simp only [List.mem_cons, List.not_mem_nil, or_false] at hx
    rcases hx with rfl | rfl | rfl
    · exact k__law_products_powers
    · exact k__law_products_far
    · exact k__law_products_near
  intro L
  exact f_products_b O Ro hpl hpo hI hn hn8 he0 hNe hb hfar hnear hnf
end
end Mine

end

section
open PySem PySem.W PyProof.Rows
namespace Mine
open Builtin.Int (intBits)
noncomputable def forBody (i j : Nat) : List Stmt := match innSt i j with | .For _ _ b _ _ => b | _ => []
noncomputable def sumP (k : Nat) : List Int → Int
  | [] => 0
  | x :: xs => 2 * x ^ k + sumP k xs
noncomputable def cho (k : Nat) : Nat → Int
  | 0 => 1
  | j + 1 => cho k j * ((k : Int) - (j + 1) + 1) / (j + 1)
noncomputable def PB (p : Nat → Int) (S : Int) (k : Nat) : Nat → Int
  | 0 => S
  | j + 1 => PB p S k j - cho k (j + 1) * (p (j + 1) * p (k - (j + 1)))
theorem cho_bd : ∀ k, k < 8 → ∀ j, j < k → 0 ≤ cho k j ∧ cho k j ≤ 64 := by decide
theorem sumP_bd {k : Nat} (hk : k ≤ 6) : ∀ xs : List Int, (∀ x ∈ xs, 0 ≤ x ∧ x ≤ 64) → 0 ≤ sumP k xs ∧ sumP k xs ≤ 2 ^ 37 * xs.length
  | [], _ => by simp [sumP]
  | x :: xs, h => by
    have ih := sumP_bd hk xs fun y hy => h y (.tail _ hy)
    have hx := h x (.head _)
    have h1 : 0 ≤ x ^ k := Int.pow_nonneg hx.1
    have h2 : x ^ k ≤ 64 ^ k := by
      refine exE1 (Int.eq_ofNat_of_zero_le hx.1) fun n e_1 => ?_
      subst e_1
      have : n ≤ 64 := by omega
      exact_mod_cast Nat.pow_le_pow_left this k
    have h3 : (64 : Int) ^ k ≤ 64 ^ 6 := by exact_mod_cast Nat.pow_le_pow_right (by decide) hk
    have e : (64 : Int) ^ 6 = 2 ^ 36 := by decide
    have e1 : (2 : Int) ^ 37 * (((x :: xs).length : Nat) : Int) = 2 ^ 37 * (xs.length : Int) + 2 ^ 37 := by rw [List.length_cons]; push_cast; rw [Int.mul_add, Int.mul_one]
    rw [sumP, e1]
    have e36 : (2 : Int) ^ 36 = 68719476736 := by decide
    have e37 : (2 : Int) ^ 37 = 137438953472 := by decide
    omega
theorem div_parts {D p far near : Int} (hD : D ≠ 0) (h0 : 0 ≤ near) (h1 : near < far) : (D * p * far + (if D > 0 then near else -near)).fdiv (D * far) = p ∧ (D * p * far + (if D > 0 then near else -near)).fmod (D * far) = (if D > 0 then near else -near) := by
  have hf : 0 < far := by omega
  have key : ∀ D' : Int, 0 < D' → near < D' * far := fun D' h => by
    have := Int.mul_le_mul_of_nonneg_right (show 1 ≤ D' by omega) (Int.le_of_lt hf)
    rw [Int.one_mul] at this; omega
  by_cases h : D > 0
  · rw [if_pos h, fdiv_pos (Int.mul_pos h hf), fmod_pos (Int.mul_pos h hf)]
    exact divmod_uniq (Int.mul_pos h hf) (by rw [Int.mul_comm p, Int.mul_right_comm]) h0 (key D h)
  · refine (Eq.symm (if_neg h)) ▸ ?_
    have hn : 0 < -D := by omega
    have hb : D * far < 0 := by have := Int.mul_pos hn hf; rw [Int.neg_mul] at this; omega
    have hdm := divmod_uniq (a := -(D * p * far + -near)) (b := -(D * far)) (q := p) (r := near) (by omega) (by rw [Int.neg_add, Int.neg_neg, Int.mul_neg, Int.mul_comm p, Int.mul_right_comm]) h0 (by have := key _ hn; rwa [Int.neg_mul] at this)
    have h2 := fdm_neg (D * p * far + -near) (D * far) hb
    have hb2 : 0 < -(D * far) := by omega
    rw [fdiv_pos hb2, fmod_pos hb2, hdm.1, hdm.2] at h2
    exact h2
structure PL (m : Loc) (sl ql : Addr) (n : Nat) (i : Nat) (far near : Int) : Prop where
  sums : m (Str.ofString "sums") = some (.ref sl)
  powers : m (Str.ofString "powers") = some (.ref ql)
  size : ∃ t, m (Str.ofString "size") = some (.int n t)
  far : ∃ t, m (Str.ofString "far") = some (.int far t)
  near : ∃ t, m (Str.ofString "near") = some (.int near t)
  k : ∃ t, m (Str.ofString "k") = some (.int (1 + i) t)
theorem PL.upd {m : Loc} {sl ql : Addr} {n i : Nat} {far near : Int} (x : PL m sl ql n i far near) {y : String} (v : Value) (hy : (["sums", "powers", "size", "far", "near", "k"].contains y) = false) : PL (upd m (Str.ofString y) v) sl ql n i far near := by
  simp only [List.contains_cons, List.contains_nil, Bool.or_false, Bool.or_eq_false_iff, beq_eq_false_iff_ne] at hy
  refine anE6 hy fun h1 h2 h3 h4 h5 h6 => ?_
  clear hy
  have g : ∀ z : String, y ≠ z → Mine.upd m (Str.ofString y) v (Str.ofString z) = m (Str.ofString z) := fun z hz => by
    rw [upd_get, if_neg (by rw [ofString_inj]; exact fun e => hz e.symm)]
  exact ⟨by rw [g _ h1]; exact x.sums, by rw [g _ h2]; exact x.powers, by rw [g _ h3]; exact x.size, by rw [g _ h4]; exact x.far, by rw [g _ h5]; exact x.near, by rw [g _ h6]; exact x.k⟩
section
variable {prog : Program} {w : World} {g0 : Cx} {mg mb : Loc} {A : Around} {E : Value → Shared → Prop} {s : Shared} {h₀ : Heap} {L : Addr} {m : Loc} {N : Led} {env : Env}
theorem ex_first {st : Stmt} {rest : List Stmt} {Q : Flow → Loc → Led → Prop} (J : Loc → Led → Prop) (h : WB g0 A (fun _ _ => False) h₀ L m N (execs [st] env) (fun f m' N' => f = .next ∧ J m' N')) (tail : ∀ m' N', J m' N' → WB g0 A E h₀ L m' N' (execs rest env) Q) :
    WB g0 A E h₀ L m N (execs (st :: rest) env) Q := by
  show WB _ _ _ _ _ _ _ (execs ([st] ++ rest) env) Q
  exact ex_append (h.exc.mono fun f m' N' ⟨e, j⟩ => by subst e; exact tail _ _ j)
noncomputable abbrev envP (L : Addr) : Env := envX (Str.ofString "_law_powers") (scopeOf 28) L 175 (.ref 174) []
end
namespace hpowers_head
noncomputable def st_ (g0 : Mine.Cx) (mg mb : Mine.Loc) (A : PySem.Around) (E : PySem.Value → PySem.Shared → Prop) (h₀ : PySem.Heap) (L : PySem.Addr) (m : Mine.Loc) (N : Mine.Led) (sl ql : PySem.Addr) (so qo : PySem.Obj) (svs ws : List PySem.Value) (ss : List Int) (p : Nat → Int) (n i : Nat) (far near : Int) (Q : PySem.Flow → Mine.Loc → Mine.Led → Prop) : Prop := ∀ (G : Gd mg mb h₀) (Rd : Room A 29) (hP : PL m sl ql n i far near) (hs : At h₀ N sl so) (hso : LO so svs) (hS : Ints svs ss) (hss : ∀ x ∈ ss, 0 ≤ x ∧ x ≤ 64) (hsl : ss.length ≤ 16) (hi : i < n) (hn : n ≤ 6) (hq : (ql, qo) ∈ N) (hqo : LX qo ws) (hI : Ints ws ((List.range (i + 1)).map p)) (hp : ∀ i, i ≤ n → -(2 ^ 25) ≤ p i ∧ p i ≤ 2 ^ 25) (hsq : sl ≠ ql) (hPB : PB p (sumP (i + 1) ss) (i + 1) i = (2 * (n : Int) - 2 ^ (i + 1)) * p (i + 1)) (h : ∀ m2 N2 side tr tp tsd, PL m2 sl ql n i far near → At h₀ N2 sl so → (ql, qo) ∈ N2 → m2 (Str.ofString "right") = some (.int ((2 * (n : Int) - 2 ^ (i + 1)) * p (i + 1)) tr) → m2 (Str.ofString "parts") = some (.int (2 * (n : Int) - 2 ^ (i + 1)) tp) →
      m2 (Str.ofString "side") = some (.int side tsd) → side = (if 2 * (n : Int) - 2 ^ (i + 1) > 0 then near else -near) → WB g0 A E h₀ L m2 N2 (execs ((forBody 28 1).drop 6) (envP L)) Q), WB g0 A E h₀ L m N (execs (forBody 28 1) (envP L)) Q
noncomputable abbrev T_ := ((((Mine.Cx × Mine.Loc) × (Mine.Loc × (PySem.Around × (PySem.Value → PySem.Shared → Prop)))) × ((PySem.Heap × (PySem.Addr × Mine.Loc)) × (Mine.Led × (PySem.Addr × PySem.Addr)))) × (((PySem.Obj × PySem.Obj) × ((List PySem.Value) × ((List PySem.Value) × (List Int)))) × (((Nat → Int) × (Nat × Nat)) × (Int × (Int × (PySem.Flow → Mine.Loc → Mine.Led → Prop))))))
theorem ne_ : Nonempty T_ := ⟨by repeat' (first | apply Prod.mk | exact default | exact nAr | exact nCx | exact nSh | constructor)⟩
noncomputable def Q_ (p : T_) : Prop := st_ p.1.1.1.1 p.1.1.1.2 p.1.1.2.1 p.1.1.2.2.1 p.1.1.2.2.2 p.1.2.1.1 p.1.2.1.2.1 p.1.2.1.2.2 p.1.2.2.1 p.1.2.2.2.1 p.1.2.2.2.2 p.2.1.1.1 p.2.1.1.2 p.2.1.2.1 p.2.1.2.2.1 p.2.1.2.2.2 p.2.2.1.1 p.2.2.1.2.1 p.2.2.1.2.2 p.2.2.2.1 p.2.2.2.2.1 p.2.2.2.2.2
noncomputable def w_ : T_ := @Classical.epsilon _ ne_ fun p => ¬ Q_ p
noncomputable def g0 := w_.1.1.1.1
noncomputable def E := w_.1.1.2.2.2
noncomputable def h₀ := w_.1.2.1.1
noncomputable def m := w_.1.2.1.2.2
noncomputable def N := w_.1.2.2.1
noncomputable def sl := w_.1.2.2.2.1
noncomputable def ql := w_.1.2.2.2.2
noncomputable def so := w_.2.1.1.1
noncomputable def qo := w_.2.1.1.2
noncomputable def svs := w_.2.1.2.1
noncomputable def ws := w_.2.1.2.2.1
noncomputable def ss := w_.2.1.2.2.2
noncomputable def p := w_.2.2.1.1
noncomputable def n := w_.2.2.1.2.1
noncomputable def i := w_.2.2.1.2.2
noncomputable def far := w_.2.2.2.1
noncomputable def near := w_.2.2.2.2.1
noncomputable def Q := w_.2.2.2.2.2
set_option maxHeartbeats 1000000 in
theorem main_ : st_ g0 w_.1.1.1.2 w_.1.1.2.1 w_.1.1.2.2.1 E h₀ w_.1.2.1.2.1 m N sl ql so qo svs ws ss p n i far near Q := by
  intro G Rd hP hs hso hS hss hsl hi hn hq hqo hI hp hsq hPB h
  show WB _ _ _ _ _ _ _ (execs (_ :: _ :: _ :: _ :: _ :: _ :: _ :: _ :: _ :: []) _) _
  refine ex_assignL ks__law_powers k__law_powers_right ?_
  repeat tb_rel
  have e25 : (2 : Int) ^ 25 = 33554432 := by decide
  have hSb := sumP_bd (k := i + 1) (by omega) ss hss
  have hSb2 : 0 ≤ sumP (i + 1) ss ∧ sumP (i + 1) ss ≤ 2 ^ 42 := by
    have e37 : (2 : Int) ^ 37 = 137438953472 := by decide
    have e42 : (2 : Int) ^ 42 = 4398046511104 := by decide
    omega
  refine ex_first (fun m' N' => PL m' sl ql n i far near ∧ At h₀ N' sl so ∧ (ql, qo) ∈ N' ∧ ∃ t, m' (Str.ofString "right") = some (.int (sumP (i + 1) ss) t)) ?_ ?_
  · refine ex_forX [(sl, so)] isV svs (fun r m' N' => PL m' sl ql n i far near ∧ At h₀ N' sl so ∧ (ql, qo) ∈ N' ∧ ∃ ys t, Ints r ys ∧ (∀ x ∈ ys, 0 ≤ x ∧ x ≤ 64) ∧ m' (Str.ofString "right") = some (.int (sumP (i + 1) ss - sumP (i + 1) ys) t)) 0 ks__law_powers k__law_powers_one ?_ (fun r m N j p hp => by rw [List.mem_singleton.mp hp]; exact j.2.1) ?_ ?_
    · refine e_local ks__law_powers k__law_powers_sums (hP.upd _ (by decide)).sums ?_
      refine it_list (T := 0) Rd.handled hs hso fun I o _ hY => exI3 I o _ ⟨rfl, rfl, hY, hP.upd _ (by decide), hs, hq, ss, _, hS, hss, by rw [Int.sub_self]; kwd_inv⟩
    · intro v0 r m N v e_2 hv
      refine anE4 e_2 fun hP hs hq h_0 => exE2 h_0 fun ys t h_1 => anE3 h_1 fun hIr hys hr => ?_
      clear h_0 h_1 e_2
      obtain rfl : v = v0 := hv
      refine via fun ξ κ=>?_
      obtain ⟨y, ys, e_3⟩ : ∃ y ys', ys = y :: ys' := by
        cases ys with
        | nil => have := hIr.length; simp at this
        | cons y ys => exact ⟨y, ys, rfl⟩
      refine κ ?_;clear κ ξ
      subst e_3
      refine exE2 hIr.uncons fun ty r' h_0 => anE2 h_0 fun e hIr' => ?_
      clear h_0
      refine anE2 (List.cons.inj e) fun e_4 e_5 => ?_
      subst e_4
      subst e_5
      have hy := hys y (.head _)
      have P1 := hP.upd (y := "one") (.int y ty) (by decide)
      refine exE1 P1.k fun tk hk => ?_
      have hr1 : upd m (Str.ofString "one") (.int y ty) (Str.ofString "right") = some (.int (sumP (i + 1) ss - sumP (i + 1) (y :: ys)) t) := by kwd_inv
      refine ex_assignL ks__law_powers k__law_powers_right ?_
      refine e_callf G ks__law_powers k__law_powers_add (i := 10) (f := 79) (by decide) rfl ?_
      refine args_cons (e_local ks__law_powers k__law_powers_right hr1 ?_)
      refine args_cons ?_
      refine e_callf G ks__law_powers k__law_powers_mul (i := 11) (f := 86) (by decide) rfl ?_
      repeat tb_rel
      refine e_callf G ks__law_powers k__law_powers_ipow (i := 16) (f := 121) (by decide) rfl ?_
      refine args_cons (e_local ks__law_powers k__law_powers_one (by kwd_inv) ?_)
      refine args_cons (e_local ks__law_powers k__law_powers_k hk ?_)
      refine args_nil ?_
      have by1 : intBits y ≤ 7 := bits_abs (by omega) (by omega)
      have hz : (intBits y : Int) * (1 + (i : Int)) ≤ 2 ^ 27 := by
        have : (intBits y : Int) * (1 + (i : Int)) ≤ 7 * 6 := Int.mul_le_mul (by omega) (by omega) (by omega) (by omega)
        rw [p27]; omega
      have en : (1 + (i : Int)).toNat = i + 1 := by omega
      have hpw := sumP_bd (k := i + 1) (by omega) [y] (by intro x hx; rw [List.mem_singleton.mp hx]; exact hy)
      simp only [sumP, Int.add_zero, List.length_singleton] at hpw
      have e37 : (2 : Int) ^ 37 = 137438953472 := by decide
      have e40 : (2 : Int) ^ 40 = 1099511627776 := by decide
      refine WB.callI (z := (y ^ (i + 1))) G (fun s' O' _ => by
        have := f_ipow (E := fun _ _ => False) (g0 := g0) (a := y) (b := 1 + (i : Int)) (t := ty) (u := tk) O' (Rd.le (by omega)) (by omega) hz
        rw [en] at this; exact this) ?_
      intro t1 new
      refine args_nil ?_
      refine WB.callI (z := (2 * y ^ (i + 1))) G (fun s' O' _ => f_mul O' (Rd.le (by omega)) (mul_ok (m := 2) (n := 40) (by decide) (bits_abs (by omega) (by omega)) (by omega))) ?_
      intro t2 new2
      refine args_nil ?_
      refine WB.callI (z := (sumP (i + 1) ss - sumP (i + 1) (y :: ys) + 2 * y ^ (i + 1))) G (fun s' O' _ => f_add O' (Rd.le (by omega))) ?_
      intro t3 new3
      have mm : ∀ q : Addr × Obj, q ∈ N → q ∈ new3 ++ (new2 ++ (new ++ N)) := fun q hq => List.mem_append_right _ (List.mem_append_right _ (List.mem_append_right _ hq))
      refine ex_nil ⟨P1.upd _ (by decide), hs.imp id (mm _), mm _ hq, exI2 ys t3 ⟨hIr', fun x hx => hys x (.tail _ hx), ?_⟩⟩
      rw [show sumP (i + 1) ss - sumP (i + 1) (y :: ys) + 2 * y ^ (i + 1) = sumP (i + 1) ss - sumP (i + 1) ys by rw [sumP]; omega]
      kwd_inv
    · intro m N e_6
      refine anE4 e_6 fun hP hs hq h_0 => exE2 h_0 fun ys t h_1 => anE3 h_1 fun hIr hys hr => ?_
      clear h_0 h_1 e_6
      have : ys = [] := by have := hIr.length; cases ys with
        | nil => rfl
        | cons => simp at this
      subst this
      exact ex_nil ⟨rfl, hP, hs, hq, t, by rw [sumP, Int.sub_zero] at hr; exact hr⟩
  · intro m N e_7
    refine anE4 e_7 fun hP hs hq h_0 => exE1 h_0 fun tr hr => ?_
    clear h_0 e_7
    refine ex_assignL ks__law_powers k__law_powers_choose ?_
    refine e_int fun tc => ?_
    have hr0 : upd m (Str.ofString "choose") (.int 1 tc) (Str.ofString "right") = some (.int (sumP (i + 1) ss) tr) := by kwd_inv
    refine ex_first (fun m' N' => PL m' sl ql n i far near ∧ At h₀ N' sl so ∧ (ql, qo) ∈ N' ∧ ∃ t, m' (Str.ofString "right") = some (.int ((2 * (n : Int) - 2 ^ (i + 1)) * p (i + 1)) t)) ?_ ?_
    · refine ex_forN 1 i (fun j m' N' => PL m' sl ql n i far near ∧ At h₀ N' sl so ∧ (ql, qo) ∈ N' ∧ ∃ t t2, m' (Str.ofString "right") = some (.int (PB p (sumP (i + 1) ss) (i + 1) j) t) ∧ m' (Str.ofString "choose") = some (.int (cho (i + 1) j) t2)) Rd.handled ks__law_powers k__law_powers_j (by decide) (by omega) ?_ ?_ ?_
      · refine e_callt G ks__law_powers k__law_powers_range (id := "range") (by decide) rfl ?_
        repeat tb_rel
        refine exE1 ((hP.upd (y := "choose") (.int 1 tc) (by decide)).k) fun tk hk => ?_
        refine e_local ks__law_powers k__law_powers_k hk ?_
        refine args_nil ?_
        refine c_range2 fun r t1 u1 v1 _ => rngI r _ t1 u1 v1 (.inr (.head _)) (by omega) (by omega) ⟨hP.upd _ (by decide), hs.imp id (.tail _), .tail _ hq, exI2 tr _ ⟨hr0, by kwd_inv⟩⟩
      · intro j m N tj hj e_8
        refine anE4 e_8 fun hP hs hq h_0 => exE2 h_0 fun t t2 h_1 => anE2 h_1 fun hr hc => ?_
        clear h_0 h_1 e_8
        have P1 := hP.upd (y := "j") (.int (1 + j) tj) (by decide)
        refine exE1 P1.k fun tk hk => ?_
        have hc1 : upd m (Str.ofString "j") (.int (1 + j) tj) (Str.ofString "choose") = some (.int (cho (i + 1) j) t2) := by kwd_inv
        have hr1 : upd m (Str.ofString "j") (.int (1 + j) tj) (Str.ofString "right") = some (.int (PB p (sumP (i + 1) ss) (i + 1) j) t) := by kwd_inv
        have cb := cho_bd (i + 1) (by omega) j (by omega)
        have cb1 := cho_bd (i + 1) (by omega) (j + 1) (by omega)
        refine ex_assignL ks__law_powers k__law_powers_choose ?_
        refine e_bin (e_bin (e_local ks__law_powers k__law_powers_choose hc1 ?_))
        refine e_bin (e_bin (e_local ks__law_powers k__law_powers_k hk ?_))
        refine e_local ks__law_powers k__law_powers_j (by kwd_inv) ?_
        refine i_sub fun _ => ?_
        refine e_int fun _ => ?_
        refine i_add fun _ => ?_
        refine i_mul (mul_ok (m := 7) (n := 4) (bits_abs (by omega) (by omega)) (bits_abs (by omega) (by omega)) (by omega)) fun _ => ?_
        refine e_local ks__law_powers k__law_powers_j (by kwd_inv) ?_
        refine i_fdiv (by omega) (noPy ?_) fun tq => ?_
        · have h1 := mul_bd (a := 64) (b := 8) (x := cho (i + 1) j) (y := 1 + (i : Int) - (1 + (j : Int)) + 1) (by omega) (by omega) (by omega) (by omega)
          exact Nat.le_trans (bits_abs (k := 12) (by omega) (by omega)) (by omega)
        have ec : (cho (i + 1) j * (1 + (i : Int) - (1 + (j : Int)) + 1)).fdiv (1 + (j : Int)) = cho (i + 1) (j + 1) := by
          rw [fdiv_pos (by omega), cho, show ((i + 1 : Nat) : Int) = 1 + (i : Int) by omega, show ((j : Int) + 1) = 1 + (j : Int) by omega]
        refine (Eq.symm ec) ▸ ?_
        have P2 := P1.upd (y := "choose") (.int (cho (i + 1) (j + 1)) tq) (by decide)
        have hr2 : upd (upd m (Str.ofString "j") (.int (1 + j) tj)) (Str.ofString "choose") (.int (cho (i + 1) (j + 1)) tq) (Str.ofString "right") = some (.int (PB p (sumP (i + 1) ss) (i + 1) j) t) := by kwd_inv
        have hc2 : upd (upd m (Str.ofString "j") (.int (1 + j) tj)) (Str.ofString "choose") (.int (cho (i + 1) (j + 1)) tq) (Str.ofString "choose") = some (.int (cho (i + 1) (j + 1)) tq) := by kwd_inv
        have hj2 : upd (upd m (Str.ofString "j") (.int (1 + j) tj)) (Str.ofString "choose") (.int (cho (i + 1) (j + 1)) tq) (Str.ofString "j") = some (.int (1 + j) tj) := by kwd_inv
        generalize upd (upd m (Str.ofString "j") (.int (1 + j) tj)) (Str.ofString "choose") (.int (cho (i + 1) (j + 1)) tq) = m2 at *
        refine exE1 P2.k fun tk2 hk2 => ?_
        refine ex_assignL ks__law_powers k__law_powers_right ?_
        refine e_callf G ks__law_powers k__law_powers_sub (i := 13) (f := 100) (by decide) rfl ?_
        refine args_cons (e_local ks__law_powers k__law_powers_right hr2 ?_)
        refine args_cons ?_
        refine e_callf G ks__law_powers k__law_powers_mul (i := 11) (f := 86) (by decide) rfl ?_
        refine args_cons (e_local ks__law_powers k__law_powers_choose hc2 ?_)
        refine args_cons ?_
        refine e_callf G ks__law_powers k__law_powers_mul (i := 11) (f := 86) (by decide) rfl ?_
        refine args_cons ?_
        refine e_subL (e_local ks__law_powers k__law_powers_powers P2.powers ?_)
        refine e_local ks__law_powers k__law_powers_j hj2 ?_
        refine exE1 (f_ints hI (i := j + 1) (by omega)) fun tp htp => ?_
        refine subI ql qo ws _ tj _ (.inr hq) hqo.lo (by omega) (by omega) (by rw [show (1 + (j : Int)).toNat = j + 1 by omega]; exact htp) ?_
        refine args_cons ?_
        refine e_subL (e_local ks__law_powers k__law_powers_powers P2.powers ?_)
        refine e_bin (e_local ks__law_powers k__law_powers_k hk2 ?_)
        refine e_local ks__law_powers k__law_powers_j hj2 ?_
        refine i_sub fun t9 => ?_
        refine exE1 (f_ints hI (i := i - j) (by omega)) fun tp2 htp2 => ?_
        refine subI ql qo ws _ t9 _ (.inr hq) hqo.lo (by omega) (by omega) (by rw [show (1 + (i : Int) - (1 + (j : Int))).toNat = i - j by omega]; exact htp2) ?_
        refine args_nil ?_
        have b1 := hp (j + 1) (by omega)
        have b2 := hp (i - j) (by omega)
        have b3 := mul_bd b1.1 b1.2 b2.1 b2.2
        have e50 : (2 : Int) ^ 25 * 2 ^ 25 = 2 ^ 50 := by decide
        rw [e50] at b3
        have e50v : (2 : Int) ^ 50 = 1125899906842624 := by decide
        have e51v : (2 : Int) ^ 51 = 2251799813685248 := by decide
        have e26v : (2 : Int) ^ 26 = 67108864 := by decide
        refine WB.callI (z := (p (j + 1) * p (i - j))) G (fun s' O' _ => f_mul O' (Rd.le (by omega)) (mul_ok (m := 26) (n := 26) (bits_abs (by omega) (by omega)) (bits_abs (by omega) (by omega)) (by omega))) ?_
        intro t5 new
        refine args_nil ?_
        refine WB.callI (z := (cho (i + 1) (j + 1) * (p (j + 1) * p (i - j)))) G (fun s' O' _ => f_mul O' (Rd.le (by omega)) (mul_ok (m := 7) (n := 51) (bits_abs (by omega) (by omega)) (bits_abs (by omega) (by omega)) (by omega))) ?_
        intro t6 new2
        refine args_nil ?_
        refine WB.callI (z := (PB p (sumP (i + 1) ss) (i + 1) j - cho (i + 1) (j + 1) * (p (j + 1) * p (i - j)))) G (fun s' O' _ => f_sub O' (Rd.le (by omega))) ?_
        intro t7 new3
        have mm : ∀ q : Addr × Obj, q ∈ N → q ∈ new3 ++ (new2 ++ (new ++ N)) := fun q hq => List.mem_append_right _ (List.mem_append_right _ (List.mem_append_right _ hq))
        refine ex_nil ⟨P2.upd _ (by decide), hs.imp id (mm _), mm _ hq, exI2 t7 tq ⟨?_, by kwd_inv⟩⟩
        rw [PB, show i + 1 - (j + 1) = i - j by omega]
        kwd_inv
      · intro m N e_9
        refine anE4 e_9 fun hP hs hq h_0 => exE2 h_0 fun t t2 h_1 => anE2 h_1 fun hr _ => ?_
        clear h_0 h_1 e_9
        exact ex_nil ⟨rfl, hP, hs, hq, t, by rw [← hPB]; exact hr⟩
    · intro m N e_10
      refine anE4 e_10 fun hP hs hq h_0 => exE1 h_0 fun tr hr => ?_
      clear h_0 e_10
      refine exE1 hP.size fun ts hsz => ?_
      refine exE1 hP.k fun tk hk => ?_
      refine ex_assignL ks__law_powers k__law_powers_parts ?_
      refine e_bin (e_bin (e_int fun _ => ?_))
      refine e_local ks__law_powers k__law_powers_size hsz ?_
      refine i_mul (mul_ok (m := 2) (n := 4) (by decide) (bits_abs (by omega) (by omega)) (by omega)) fun _ => ?_
      refine e_bin (e_int fun _ => ?_)
      refine e_local ks__law_powers k__law_powers_k hk ?_
      refine i_pow (by omega) (by rw [p27, show intBits 2 = 2 by decide]; omega) fun _ => ?_
      refine (Eq.symm (show (1 + (i : Int)).toNat = i + 1 by omega)) ▸ ?_
      refine i_sub fun tp => ?_
      have hP1 := hP.upd (y := "parts") (.int (2 * (n : Int) - 2 ^ (i + 1)) tp) (by decide)
      have hr1 : upd m (Str.ofString "parts") (.int (2 * (n : Int) - 2 ^ (i + 1)) tp) (Str.ofString "right") = some (.int ((2 * (n : Int) - 2 ^ (i + 1)) * p (i + 1)) tr) := by kwd_inv
      have hp1 : upd m (Str.ofString "parts") (.int (2 * (n : Int) - 2 ^ (i + 1)) tp) (Str.ofString "parts") = some (.int (2 * (n : Int) - 2 ^ (i + 1)) tp) := by kwd_inv
      generalize upd m (Str.ofString "parts") (.int (2 * (n : Int) - 2 ^ (i + 1)) tp) = m1 at *
      generalize hD : 2 * (n : Int) - 2 ^ (i + 1) = D at *
      refine exE1 hP1.near fun tn hnr => ?_
      refine ex_assignL ks__law_powers k__law_powers_side ?_
      refine WB.mono (Q := fun v m' N' => ∃ t, v = .int (if D > 0 then near else -near) t ∧ m' = m1 ∧ N' = N) ?_ ?_
      · refine e_ifexp ?_
        refine t_cmp ?_
        refine e_local ks__law_powers k__law_powers_parts hp1 ?_
        refine e_int fun _ => ?_
        refine i_gt (truthy_b ?_)
        by_cases h : D > 0
        · refine if_t3 (decide_eq_true h) ?_
          exact e_local ks__law_powers k__law_powers_near hnr ⟨tn, by rw [if_pos h], rfl, rfl⟩
        · refine if_f3 (decide_eq_false h) ?_
          exact e_un (e_local ks__law_powers k__law_powers_near hnr (i_neg fun t => ⟨t, by rw [if_neg h], rfl, rfl⟩))
      intro v m' N' e_11
      refine via fun ξ κ=>?_
      obtain ⟨tsd, e_12, e1, e2⟩ := e_11
      refine κ ?_;clear κ ξ
      subst e_12
      rw [e1, e2]
      clear e1 e2 m' N'
      have hP2 := hP1.upd (y := "side") (.int (if D > 0 then near else -near) tsd) (by decide)
      have hr2 : upd m1 (Str.ofString "side") (.int (if D > 0 then near else -near) tsd) (Str.ofString "right") = some (.int (D * p (i + 1)) tr) := by kwd_inv
      have hp2 : upd m1 (Str.ofString "side") (.int (if D > 0 then near else -near) tsd) (Str.ofString "parts") = some (.int D tp) := by kwd_inv
      have hs2 : upd m1 (Str.ofString "side") (.int (if D > 0 then near else -near) tsd) (Str.ofString "side") = some (.int (if D > 0 then near else -near) tsd) := by kwd_inv
      exact h _ _ _ _ _ _ hP2 hs hq hr2 hp2 hs2 rfl
end hpowers_head
theorem powers_head {g0 mg mb A E h₀ L m N sl ql so qo svs ws ss p n i far near Q} : hpowers_head.st_ g0 mg mb A E h₀ L m N sl ql so qo svs ws ss p n i far near Q := Mine.hk hpowers_head.ne_ (P := hpowers_head.Q_) hpowers_head.main_ ((((g0, mg), (mb, (A, E))), ((h₀, (L, m)), (N, (sl, ql)))), (((so, qo), (svs, (ws, ss))), ((p, (n, i)), (far, (near, Q)))))
section
variable {prog : Program} {w : World} {g0 : Cx} {mg mb : Loc} {A : Around} {E : Value → Shared → Prop} {s : Shared} {h₀ : Heap} {L : Addr} {m : Loc} {N : Led} {env : Env}
end
namespace hpowers_turn
noncomputable def st_ (g0 : Mine.Cx) (mg mb : Mine.Loc) (A : PySem.Around) (E : PySem.Value → PySem.Shared → Prop) (h₀ : PySem.Heap) (L : PySem.Addr) (m : Mine.Loc) (N : Mine.Led) (sl ql : PySem.Addr) (so qo : PySem.Obj) (svs ws : List PySem.Value) (ss : List Int) (p : Nat → Int) (n i : Nat) (far near : Int) : Prop := ∀ (G : Gd mg mb h₀) (Rd : Room A 29) (hP : PL m sl ql n i far near) (hs : At h₀ N sl so) (hso : LO so svs) (hS : Ints svs ss) (hss : ∀ x ∈ ss, 0 ≤ x ∧ x ≤ 64) (hsl : ss.length ≤ 16) (hi : i < n) (hn : n ≤ 6) (hq : (ql, qo) ∈ N) (hqo : LX qo ws) (hI : Ints ws ((List.range (i + 1)).map p)) (hp : ∀ i, i ≤ n → -(2 ^ 25) ≤ p i ∧ p i ≤ 2 ^ 25) (hsq : sl ≠ ql) (hPB : PB p (sumP (i + 1) ss) (i + 1) i = (2 * (n : Int) - 2 ^ (i + 1)) * p (i + 1)) (hparts : 2 * (n : Int) - 2 ^ (i + 1) ≠ 0) (hfar : far < 2 ^ 4500) (hnear : 0 ≤ near) (hnf : near < far), WB g0 A E h₀ L m N (execs (forBody 28 1) (envP L)) fun f m' N' => f = .next ∧ PL m' sl ql n i far near ∧ At h₀ N' sl so ∧ ∃ qo' ws', (ql, qo') ∈ N' ∧ LX qo' ws' ∧ Ints ws' ((List.range (i + 2)).map p)
noncomputable abbrev T_ := ((((Mine.Cx × Mine.Loc) × (Mine.Loc × (PySem.Around × (PySem.Value → PySem.Shared → Prop)))) × ((PySem.Heap × PySem.Addr) × (Mine.Loc × (Mine.Led × PySem.Addr)))) × (((PySem.Addr × PySem.Obj) × (PySem.Obj × ((List PySem.Value) × (List PySem.Value)))) × (((List Int) × ((Nat → Int) × Nat)) × (Nat × (Int × Int)))))
theorem ne_ : Nonempty T_ := ⟨by repeat' (first | apply Prod.mk | exact default | exact nAr | exact nCx | exact nSh | constructor)⟩
noncomputable def Q_ (p : T_) : Prop := st_ p.1.1.1.1 p.1.1.1.2 p.1.1.2.1 p.1.1.2.2.1 p.1.1.2.2.2 p.1.2.1.1 p.1.2.1.2 p.1.2.2.1 p.1.2.2.2.1 p.1.2.2.2.2 p.2.1.1.1 p.2.1.1.2 p.2.1.2.1 p.2.1.2.2.1 p.2.1.2.2.2 p.2.2.1.1 p.2.2.1.2.1 p.2.2.1.2.2 p.2.2.2.1 p.2.2.2.2.1 p.2.2.2.2.2
noncomputable def w_ : T_ := @Classical.epsilon _ ne_ fun p => ¬ Q_ p
noncomputable def m := w_.1.2.2.1
noncomputable def N := w_.1.2.2.2.1
noncomputable def ws := w_.2.1.2.2.2
noncomputable def p := w_.2.2.1.2.1
noncomputable def n := w_.2.2.1.2.2
noncomputable def i := w_.2.2.2.1
noncomputable def far := w_.2.2.2.2.1
noncomputable def near := w_.2.2.2.2.2
set_option maxHeartbeats 1000000 in
theorem main_ : st_ w_.1.1.1.1 w_.1.1.1.2 w_.1.1.2.1 w_.1.1.2.2.1 w_.1.1.2.2.2 w_.1.2.1.1 w_.1.2.1.2 m N w_.1.2.2.2.2 w_.2.1.1.1 w_.2.1.1.2 w_.2.1.2.1 w_.2.1.2.2.1 ws w_.2.2.1.1 p n i far near := by
  intro G Rd hP hs hso hS hss hsl hi hn hq hqo hI hp hsq hPB hparts hfar hnear hnf
  refine powers_head G Rd hP hs hso hS hss hsl hi hn hq hqo hI hp hsq hPB fun m2 N side tr tp tsd hP2 hs hq hr2 hp2 hs2 hside => ?_
  show WB _ _ _ _ _ _ _ (execs (_ :: _ :: _ :: []) _) _
  have pw : ∀ k, k ≤ 6 → (1 : Int) ≤ 2 ^ k ∧ (2 : Int) ^ k ≤ 64 := by decide
  have hpw := pw (i + 1) (by omega)
  generalize hD : 2 * (n : Int) - 2 ^ (i + 1) = D at *
  subst hside
  have hdp := div_parts (p := p (i + 1)) hparts hnear hnf
  have bp := hp (i + 1) (by omega)
  have hDp := mul_bd (a := 64) (x := D) (by omega) (by omega) bp.1 bp.2
  have bf : intBits far ≤ 4500 := bits_le (by omega) hfar
  have e25' : (64 : Int) * 2 ^ 25 = 2147483648 := by decide
  rw [e25'] at hDp
  have e63 : (2 : Int) ^ 63 = 9223372036854775808 := by decide
  have hA : intBits (D * p (i + 1) * far + (if D > 0 then near else -near)) ≤ 4500 + 64 := by
    by_cases h : D > 0
    · rw [if_pos h]; exact big_bits (by omega) (by omega) hnear hnf hfar
    · rw [if_neg h, ← bits_neg, Int.neg_add, Int.neg_neg, ← Int.neg_mul]
      exact big_bits (by omega) (by omega) hnear hnf hfar
  have hB : intBits (D * far) ≤ 4500 + 64 := by
    have := big_bits (R := D) (far := far) (near := 0) (n := 4500) (by omega) (by omega) (by omega) (by omega) hfar
    rwa [Int.add_zero] at this
  have hb0 : D * far ≠ 0 := Int.mul_ne_zero hparts (by omega)
  generalize (if D > 0 then near else -near) = side at *
  refine exE1 hP2.far fun tf hfr => ?_
  refine ex_assign2 Rd.handled ks__law_powers k__law_powers_quotient k__law_powers_rest ?_
  refine e_callf G ks__law_powers k__law_powers_int_divmod (i := 8) (f := 72) (by decide) rfl ?_
  refine args_cons ?_
  refine e_callf G ks__law_powers k__law_powers_add (i := 10) (f := 79) (by decide) rfl ?_
  refine args_cons ?_
  refine e_callf G ks__law_powers k__law_powers_mul (i := 11) (f := 86) (by decide) rfl ?_
  refine args_cons (e_local ks__law_powers k__law_powers_right hr2 ?_)
  refine args_cons (e_local ks__law_powers k__law_powers_far hfr ?_)
  refine args_nil ?_
  refine WB.callI (z := (D * p (i + 1) * far)) G (fun s' O' _ => f_mul O' (Rd.le (by omega)) (mul_ok (m := 64) (n := 4500) (bits_abs (by omega) (by omega)) bf (by omega))) ?_
  intro t1 new1
  refine args_cons (e_local ks__law_powers k__law_powers_side hs2 ?_)
  refine args_nil ?_
  refine WB.callI (z := (D * p (i + 1) * far + side)) G (fun s' O' _ => f_add O' (Rd.le (by omega))) ?_
  intro t2 new2
  refine args_cons ?_
  refine e_callf G ks__law_powers k__law_powers_mul (i := 11) (f := 86) (by decide) rfl ?_
  refine args_cons (e_local ks__law_powers k__law_powers_parts hp2 ?_)
  refine args_cons (e_local ks__law_powers k__law_powers_far hfr ?_)
  refine args_nil ?_
  refine WB.callI (z := (D * far)) G (fun s' O' _ => f_mul O' (Rd.le (by omega)) (mul_ok (m := 8) (n := 4500) (bits_abs (by omega) (by omega)) bf (by omega))) ?_
  intro t3 new3
  refine args_nil ?_
  refine WB.callDF (a := (D * p (i + 1) * far + side)) (b := (D * far)) G (fun s' O' _ => int_divmod O' (Rd.le (by omega)) hb0 (Nat.le_trans hA (by decide)) (Nat.le_trans hB (by decide))) ?_
  intro r4 k4 k5 new4 hm4 _
  rw [hdp.1, hdp.2] at hm4
  refine tupI r4 _ _ _ (.inr (List.mem_append_left _ hm4)) ?_
  have hP4 := (hP2.upd (y := "quotient") (.int (p (i + 1)) k4) (by decide)).upd (y := "rest") (.int side k5) (by decide)
  have hs4 : upd (upd m2 (Str.ofString "quotient") (.int (p (i + 1)) k4)) (Str.ofString "rest") (.int side k5) (Str.ofString "side") = some (.int side tsd) := by kwd_inv
  refine ex_if ?_
  refine t_cmp ?_
  refine e_local ks__law_powers k__law_powers_rest (by kwd_inv) ?_
  refine e_local ks__law_powers k__law_powers_side hs4 ?_
  refine i_ne (truthy_b ?_)
  have en : (side != side) = false := by simp
  refine if_f1 (en) ?_
  show WB _ _ _ _ _ _ _ (execs (_ :: []) _) _
  refine ex_expr ?_
  refine e_meth attrBase_name rfl rfl ?_
  refine e_local ks__law_powers k__law_powers_powers hP4.powers ?_
  intro pl'
  have mm : ∀ q : Addr × Obj, q ∈ N → q ∈ new4 ++ (new3 ++ (new2 ++ (new1 ++ N))) := fun q hq => List.mem_append_right _ (List.mem_append_right _ (List.mem_append_right _ (List.mem_append_right _ hq)))
  refine g_lst slot_list_append type_list_append (.inr (mm _ hq)) hqo ?_
  refine call_b1 rfl ?_
  refine args_cons (e_local ks__law_powers k__law_powers_quotient (by kwd_inv) ?_)
  refine args_nil ?_
  have hwl : ws.length = i + 1 := by rw [hI.length]; simp
  refine c_append (mm _ hq) hqo (by omega) fun qo' N2 hLX hH hm' => ?_
  refine ex_nil ⟨rfl, hP4, hs.imp id fun h => (hH _ (mm _ h)).resolve_left fun e => hsq (Prod.mk.inj e).1, exI2 qo' _ ⟨hm', hLX, ?_⟩⟩
  rw [List.range_succ, List.map_append]
  exact hI.append Ints.nil.cons
end hpowers_turn
theorem powers_turn {g0 mg mb A E h₀ L m N sl ql so qo svs ws ss p n i far near} : hpowers_turn.st_ g0 mg mb A E h₀ L m N sl ql so qo svs ws ss p n i far near := Mine.hk hpowers_turn.ne_ (P := hpowers_turn.Q_) hpowers_turn.main_ ((((g0, mg), (mb, (A, E))), ((h₀, L), (m, (N, sl)))), (((ql, so), (qo, (svs, ws))), ((ss, (p, n)), (i, (far, near)))))
section
variable {prog : Program} {w : World} {g0 : Cx} {mg mb : Loc} {A : Around} {E : Value → Shared → Prop} {s : Shared} {h₀ : Heap} {L : Addr} {m : Loc} {N : Led} {env : Env}
end
namespace hf_powers_b
noncomputable def st_ (g0 : Mine.Cx) (mg mb : Mine.Loc) (A : PySem.Around) (s : PySem.Shared) (sl : PySem.Addr) (so : PySem.Obj) (svs : List PySem.Value) (ss : List Int) (p : Nat → Int) (n : Nat) (far near : Int) (t1 t2 t3 : PySem.Tok) (L : PySem.Addr) : Prop := ∀ (O : OkAt mg mb g0 s) (Ro : Room A 30) (hsl : s.heap.get? sl = some so) (hso : LO so svs) (hS : Ints svs ss) (hss : ∀ x ∈ ss, 0 ≤ x ∧ x ≤ 64) (hsn : ss.length ≤ 16) (hn : n ≤ 6) (hp0 : p 0 = n) (hp : ∀ i, i ≤ n → -(2 ^ 25) ≤ p i ∧ p i ≤ 2 ^ 25) (hPB : ∀ i, i < n → PB p (sumP (i + 1) ss) (i + 1) i = (2 * (n : Int) - 2 ^ (i + 1)) * p (i + 1)) (hparts : ∀ i, i < n → 2 * (n : Int) - 2 ^ (i + 1) ≠ 0) (hfar : far < 2 ^ 4500) (hnear : 0 ≤ near) (hnf : near < far), EntB g0 mg mb "_law_powers" 174 28 (29) [(Str.ofString "sums", .ref sl), (Str.ofString "size", .int n t1), (Str.ofString "far", .int far t2), (Str.ofString "near", .int near t3)] (fun v new => ∃ r ro ws, v = .ref r ∧ (r, ro) ∈ new ∧ LX ro ws ∧ Ints ws ((List.range (n + 1)).map p)) A s L
noncomputable abbrev T_ := ((((Mine.Cx × Mine.Loc) × (Mine.Loc × PySem.Around)) × ((PySem.Shared × PySem.Addr) × (PySem.Obj × (List PySem.Value)))) × ((((List Int) × (Nat → Int)) × (Nat × Int)) × ((Int × PySem.Tok) × (PySem.Tok × (PySem.Tok × PySem.Addr)))))
theorem ne_ : Nonempty T_ := ⟨by repeat' (first | apply Prod.mk | exact default | exact nAr | exact nCx | exact nSh | constructor)⟩
noncomputable def Q_ (p : T_) : Prop := st_ p.1.1.1.1 p.1.1.1.2 p.1.1.2.1 p.1.1.2.2 p.1.2.1.1 p.1.2.1.2 p.1.2.2.1 p.1.2.2.2 p.2.1.1.1 p.2.1.1.2 p.2.1.2.1 p.2.1.2.2 p.2.2.1.1 p.2.2.1.2 p.2.2.2.1 p.2.2.2.2.1 p.2.2.2.2.2
noncomputable def w_ : T_ := @Classical.epsilon _ ne_ fun p => ¬ Q_ p
noncomputable def sl := w_.1.2.1.2
noncomputable def p := w_.2.1.1.2
noncomputable def n := w_.2.1.2.1
noncomputable def far := w_.2.1.2.2
noncomputable def near := w_.2.2.1.1
noncomputable def t1 := w_.2.2.1.2
theorem main_ : st_ w_.1.1.1.1 w_.1.1.1.2 w_.1.1.2.1 w_.1.1.2.2 w_.1.2.1.1 sl w_.1.2.2.1 w_.1.2.2.2 w_.2.1.1.1 p n far near t1 w_.2.2.2.1 w_.2.2.2.2.1 w_.2.2.2.2.2 := by
  intro O Ro hsl hso hS hss hsn hn hp0 hp hPB hparts hfar hnear hnf
  intro hL G Rd
  have hsl0 := hideT_get hsl (O.notTab hsl hso.cls)
  refine WB.cm entry4 ?_
  show WB _ _ _ _ _ _ _ (execs (_ :: _ :: _ :: []) _) _
  refine ex_assignL ks__law_powers k__law_powers_powers ?_
  refine e_list rfl ?_
  repeat tb_rel
  refine ⟨by simp, fun ql fql => ?_⟩
  have hne : sl ≠ ql := Nat.ne_of_lt (Nat.lt_of_lt_of_le (Heap.lt_size hsl0) fql.ge)
  refine ex_forN 1 n (fun i m N => m (Str.ofString "sums") = some (.ref sl) ∧ m (Str.ofString "powers") = some (.ref ql) ∧ (∃ t, m (Str.ofString "size") = some (.int n t)) ∧ (∃ t, m (Str.ofString "far") = some (.int far t)) ∧ (∃ t, m (Str.ofString "near") = some (.int near t)) ∧ ∃ qo ws, (ql, qo) ∈ N ∧ LX qo ws ∧ Ints ws ((List.range (i + 1)).map p)) Rd.handled ks__law_powers k__law_powers_k (by decide) (by omega) ?_ ?_ ?_
  · refine e_callt G ks__law_powers k__law_powers_range (id := "range") (by decide) rfl ?_
    repeat tb_rel
    refine c_range2 fun r t1 u1 v1 _ => rngI r _ t1 u1 v1 (.inr (.head _)) (by omega) (by omega) ⟨by kwd_inv, by kwd_inv, ⟨_, by kwd_inv⟩, ⟨_, by kwd_inv⟩, ⟨_, by kwd_inv⟩, exI2 _ _ ⟨.tail _ (.head _), ⟨0, rfl⟩, ?_⟩⟩
    have : (List.range (0 + 1)).map p = [(n : Int)] := by simp [List.range_succ, hp0]
    rw [this]; exact Ints.nil.cons
  · intro i m N tk hi e_13
    refine anE6 e_13 fun h1 h2 h3 h4 h5 h_0 => exE2 h_0 fun qo ws h_1 => anE3 h_1 fun hq hqo hI => ?_
    clear h_0 h_1 e_13
    have hP : PL (upd m (Str.ofString "k") (.int (1 + i) tk)) sl ql n i far near := ⟨by kwd_inv, by kwd_inv, by kwd_inv, by kwd_inv, by kwd_inv, tk, by kwd_inv⟩
    refine (powers_turn G Rd hP (.inl hsl0) hso hS hss hsn hi hn hq hqo hI hp hne (hPB i hi) (hparts i hi) hfar hnear hnf).mono fun f m' N' x_ => ?_
    refine anE4 x_ fun e hP' _ h_0 => exE2 h_0 fun qo' ws' h_1 => anE3 h_1 fun a b c => ?_
    clear h_0 h_1 x_
    subst e
    exact ⟨hP'.sums, hP'.powers, hP'.size, hP'.far, hP'.near, qo', ws', a, b, c⟩
  · intro m N e_14
    refine anE6 e_14 fun h1 h2 h3 h4 h5 h_0 => exE2 h_0 fun qo ws h_1 => anE3 h_1 fun hq hqo hI => ?_
    clear h_0 h_1 e_14
    refine ex_ret ?_
    refine e_local ks__law_powers k__law_powers_powers h2 ?_
    exact exI3 ql qo ws ⟨rfl, hq, hqo, hI⟩
end hf_powers_b
theorem f_powers_b {g0 mg mb A s sl so svs ss p n far near t1 t2 t3 L} : hf_powers_b.st_ g0 mg mb A s sl so svs ss p n far near t1 t2 t3 L := Mine.hk hf_powers_b.ne_ (P := hf_powers_b.Q_) hf_powers_b.main_ ((((g0, mg), (mb, A)), ((s, sl), (so, svs))), (((ss, p), (n, far)), ((near, t1), (t2, (t3, L)))))
section
variable {prog : Program} {w : World} {g0 : Cx} {mg mb : Loc} {A : Around} {E : Value → Shared → Prop} {s : Shared} {h₀ : Heap} {L : Addr} {m : Loc} {N : Led} {env : Env}
theorem f_powers {sl : Addr} {so : Obj} {svs : List Value} {ss : List Int} {p : Nat → Int} {n : Nat} {far near : Int} {t1 t2 t3 : Tok} (O : OkAt mg mb g0 s) (Ro : Room A 30) (hsl : s.heap.get? sl = some so) (hso : LO so svs) (hS : Ints svs ss) (hss : ∀ x ∈ ss, 0 ≤ x ∧ x ≤ 64) (hsn : ss.length ≤ 16)
    (hn : n ≤ 6) (hp0 : p 0 = n) (hp : ∀ i, i ≤ n → -(2 ^ 25) ≤ p i ∧ p i ≤ 2 ^ 25) (hPB : ∀ i, i < n → PB p (sumP (i + 1) ss) (i + 1) i = (2 * (n : Int) - 2 ^ (i + 1)) * p (i + 1)) (hparts : ∀ i, i < n → 2 * (n : Int) - 2 ^ (i + 1) ≠ 0)
    (hfar : far < 2 ^ 4500) (hnear : 0 ≤ near) (hnf : near < far) : wpAny (model g0.prog g0.w) A (call (.ref 175) [.ref sl, .int n t1, .int far t2, .int near t3]) (Back g0 s.heap fun v new => ∃ r ro ws, v = .ref r ∧ (r, ro) ∈ new ∧ LX ro ws ∧ Ints ws ((List.range (n + 1)).map p)) E s := by
  refine enter (name := "_law_powers") (f := 174) (i := 28) (n := 29) (binds := [(Str.ofString "sums", .ref sl), (Str.ofString "size", .int n t1), (Str.ofString "far", .int far t2), (Str.ofString "near", .int near t3)]) (by decide) O Ro (fun pm => by rfl) ?_ (by rfl) (by rfl) (by rfl) (by rfl) ?_
  · intro x hx
    simp only [List.mem_cons, List.not_mem_nil, or_false] at hx
    rcases hx with rfl | rfl | rfl | rfl
    · exact k__law_powers_sums
    · exact k__law_powers_size
    · exact k__law_powers_far
    · exact k__law_powers_near
  intro L
  exact f_powers_b O Ro hsl hso hS hss hsn hn hp0 hp hPB hparts hfar hnear hnf
end
end Mine

end

section
namespace Mine
noncomputable def ES : List Int → Nat → Int
  | [], 0 => 1
  | [], _ + 1 => 0
  | _ :: _, 0 => 1
  | x :: xs, k + 1 => ES xs (k + 1) + x * ES xs k
noncomputable def PS : List Int → Nat → Int
  | [], _ => 0
  | x :: xs, k => x ^ k + PS xs k
theorem ES_zero (xs : List Int) : ES xs 0 = 1 := by cases xs <;> rfl
noncomputable def sg (j : Nat) : Int := if j % 2 = 1 then 1 else -1
theorem sg_succ (j : Nat) : sg (j + 1) = -sg j := by
  unfold sg
  rcases Nat.mod_two_eq_zero_or_one j with h | h
  · rw [if_pos (by omega), if_neg (by omega)]; rfl
  · rw [if_neg (by omega), if_pos h]
theorem NA_succ (p e : Nat → Int) (k j : Nat) : NA p e k (j + 1) = NA p e k j + sg (j + 1) * (e (k - (j + 1)) * p (j + 1)) := by
  rw [NA]; unfold sg
  split
  · rw [Int.one_mul]
  · rw [Int.neg_mul, Int.one_mul]; omega
theorem NA_step (x : Int) (xs : List Int) (K : Nat) : ∀ j, j ≤ K → NA (PS (x :: xs)) (ES (x :: xs)) (K + 1) j =
    NA (PS xs) (ES xs) (K + 1) j + x * NA (PS xs) (ES xs) K j + (ES xs K * x + sg j * (ES xs (K - j) * x ^ (j + 1)))
  | 0, _ => by
    have e : x ^ (0 + 1) = x := by rw [Int.pow_succ, Int.pow_zero, Int.one_mul]
    rw [NA, NA, NA, e, Nat.sub_zero]
    show (0 : Int) = 0 + x * 0 + (ES xs K * x + -1 * (ES xs K * x))
    grind
  | j + 1, hj => by
    have ih := NA_step x xs K j (by omega)
    rw [NA_succ, NA_succ, NA_succ, ih]
    obtain ⟨r, rfl⟩ : ∃ r, K = r + (j + 1) := ⟨K - (j + 1), by omega⟩
    have e1 : r + (j + 1) + 1 - (j + 1) = r + 1 := by omega
    have e2 : r + (j + 1) - (j + 1) = r := by omega
    have e3 : r + (j + 1) - j = r + 1 := by omega
    rw [e1, e2, e3, sg_succ]
    show _ + -sg j * ((ES xs (r + 1) + x * ES xs r) * (x ^ (j + 1) + PS xs (j + 1))) = _
    have e4 : x ^ (j + 1 + 1) = x ^ (j + 1) * x := Int.pow_succ x (j + 1)
    rw [e4]
    generalize x ^ (j + 1) = X
    generalize ES xs (r + 1) = a
    generalize ES xs r = b
    generalize PS xs (j + 1) = c
    generalize sg j = s
    generalize NA (PS xs) (ES xs) (r + (j + 1) + 1) j = u
    generalize NA (PS xs) (ES xs) (r + (j + 1)) j = v
    generalize ES xs (r + (j + 1)) = w
    grind
theorem newton : ∀ (xs : List Int) (k : Nat), NA (PS xs) (ES xs) k k = k * ES xs k
  | [], k => by
    have : ∀ k j, NA (PS []) (ES []) k j = 0 := fun k j => by
      induction j with
      | zero => rfl
      | succ j ih => rw [NA_succ, ih]; show 0 + sg (j + 1) * (_ * 0) = 0; simp
    rw [this]
    cases k with
    | zero => simp
    | succ k => show (0 : Int) = _ * 0; simp
  | x :: xs, 0 => by simp [NA]
  | x :: xs, K + 1 => by
    have h1 := newton xs (K + 1)
    have h2 := newton xs K
    have h3 := NA_step x xs K K (Nat.le_refl _)
    rw [NA_succ] at h1 ⊢
    rw [h3]
    simp only [Nat.sub_self, ES_zero] at h1 h3 ⊢
    have e4 : PS (x :: xs) (K + 1) = x ^ (K + 1) + PS xs (K + 1) := rfl
    have e5 : ES (x :: xs) (K + 1) = ES xs (K + 1) + x * ES xs K := rfl
    rw [e4, e5, sg_succ] at *
    rw [h2]
    push_cast at *
    generalize x ^ (K + 1) = X at *
    generalize ES xs (K + 1) = a at *
    generalize ES xs K = b at *
    generalize PS xs (K + 1) = c at *
    generalize sg K = s at *
    generalize NA (PS xs) (ES xs) (K + 1) K = u at *
    generalize (K : Int) = k at *
    grind
end Mine

end

section
namespace Mine
noncomputable def pairSums : List Int → List Int
  | [] => []
  | x :: xs => xs.map (x + ·) ++ pairSums xs
theorem sumP_append (k : Nat) (ys : List Int) : ∀ xs : List Int, sumP k (xs ++ ys) = sumP k xs + sumP k ys
  | [] => by simp [sumP]
  | x :: xs => by rw [List.cons_append, sumP, sumP, sumP_append k ys xs, Int.add_assoc]
theorem PS_zero : ∀ xs : List Int, PS xs 0 = xs.length
  | [] => rfl
  | x :: xs => by rw [PS, PS_zero xs, Int.pow_zero, List.length_cons]; push_cast; omega
theorem PS_cons (x : Int) (xs : List Int) (k : Nat) : PS (x :: xs) k = x ^ k + PS xs k := rfl
theorem sumP_cons (x : Int) (xs : List Int) (k : Nat) : sumP k (x :: xs) = 2 * x ^ k + sumP k xs := rfl
theorem sumP_map1 (x : Int) : ∀ xs : List Int, sumP 1 (xs.map (x + ·)) = 2 * (1 * (x ^ 0 * PS xs 1) + 1 * (x ^ 1 * PS xs 0))
  | [] => by simp [sumP, PS]
  | y :: xs => by
    rw [List.map_cons, sumP_cons, sumP_map1 x xs]
    simp only [PS_cons]
    generalize PS xs 0 = p0
    generalize PS xs 1 = p1
    grind
theorem straus1 : ∀ ds : List Int, sumP 1 (pairSums ds) = 2 * (PS ds 0 * PS ds 1) - 2 * PS ds 1
  | [] => by simp [sumP, PS, pairSums]
  | x :: xs => by
    rw [pairSums, sumP_append, sumP_map1 x xs, straus1 xs]
    simp only [PS_cons]
    generalize PS xs 0 = p0
    generalize PS xs 1 = p1
    grind
theorem sumP_map2 (x : Int) : ∀ xs : List Int, sumP 2 (xs.map (x + ·)) = 2 * (1 * (x ^ 0 * PS xs 2) + 2 * (x ^ 1 * PS xs 1) + 1 * (x ^ 2 * PS xs 0))
  | [] => by simp [sumP, PS]
  | y :: xs => by
    rw [List.map_cons, sumP_cons, sumP_map2 x xs]
    simp only [PS_cons]
    generalize PS xs 0 = p0
    generalize PS xs 1 = p1
    generalize PS xs 2 = p2
    grind
theorem straus2 : ∀ ds : List Int, sumP 2 (pairSums ds) = 2 * (PS ds 0 * PS ds 2) + 2 * (PS ds 1 * PS ds 1) - 4 * PS ds 2
  | [] => by simp [sumP, PS, pairSums]
  | x :: xs => by
    rw [pairSums, sumP_append, sumP_map2 x xs, straus2 xs]
    simp only [PS_cons]
    generalize PS xs 0 = p0
    generalize PS xs 1 = p1
    generalize PS xs 2 = p2
    grind
theorem sumP_map3 (x : Int) : ∀ xs : List Int, sumP 3 (xs.map (x + ·)) = 2 * (1 * (x ^ 0 * PS xs 3) + 3 * (x ^ 1 * PS xs 2) + 3 * (x ^ 2 * PS xs 1) + 1 * (x ^ 3 * PS xs 0))
  | [] => by simp [sumP, PS]
  | y :: xs => by
    rw [List.map_cons, sumP_cons, sumP_map3 x xs]
    simp only [PS_cons]
    generalize PS xs 0 = p0
    generalize PS xs 1 = p1
    generalize PS xs 2 = p2
    generalize PS xs 3 = p3
    grind
theorem straus3 : ∀ ds : List Int, sumP 3 (pairSums ds) = 2 * (PS ds 0 * PS ds 3) + 3 * (PS ds 1 * PS ds 2) + 3 * (PS ds 2 * PS ds 1) - 8 * PS ds 3
  | [] => by simp [sumP, PS, pairSums]
  | x :: xs => by
    rw [pairSums, sumP_append, sumP_map3 x xs, straus3 xs]
    simp only [PS_cons]
    generalize PS xs 0 = p0
    generalize PS xs 1 = p1
    generalize PS xs 2 = p2
    generalize PS xs 3 = p3
    grind
theorem sumP_map4 (x : Int) : ∀ xs : List Int, sumP 4 (xs.map (x + ·)) = 2 * (1 * (x ^ 0 * PS xs 4) + 4 * (x ^ 1 * PS xs 3) + 6 * (x ^ 2 * PS xs 2) + 4 * (x ^ 3 * PS xs 1) + 1 * (x ^ 4 * PS xs 0))
  | [] => by simp [sumP, PS]
  | y :: xs => by
    rw [List.map_cons, sumP_cons, sumP_map4 x xs]
    simp only [PS_cons]
    generalize PS xs 0 = p0
    generalize PS xs 1 = p1
    generalize PS xs 2 = p2
    generalize PS xs 3 = p3
    generalize PS xs 4 = p4
    grind
theorem straus4 : ∀ ds : List Int, sumP 4 (pairSums ds) = 2 * (PS ds 0 * PS ds 4) + 4 * (PS ds 1 * PS ds 3) + 6 * (PS ds 2 * PS ds 2) + 4 * (PS ds 3 * PS ds 1) - 16 * PS ds 4
  | [] => by simp [sumP, PS, pairSums]
  | x :: xs => by
    rw [pairSums, sumP_append, sumP_map4 x xs, straus4 xs]
    simp only [PS_cons]
    generalize PS xs 0 = p0
    generalize PS xs 1 = p1
    generalize PS xs 2 = p2
    generalize PS xs 3 = p3
    generalize PS xs 4 = p4
    grind
theorem sumP_map5 (x : Int) : ∀ xs : List Int, sumP 5 (xs.map (x + ·)) = 2 * (1 * (x ^ 0 * PS xs 5) + 5 * (x ^ 1 * PS xs 4) + 10 * (x ^ 2 * PS xs 3) + 10 * (x ^ 3 * PS xs 2) + 5 * (x ^ 4 * PS xs 1) + 1 * (x ^ 5 * PS xs 0))
  | [] => by simp [sumP, PS]
  | y :: xs => by
    rw [List.map_cons, sumP_cons, sumP_map5 x xs]
    simp only [PS_cons]
    generalize PS xs 0 = p0
    generalize PS xs 1 = p1
    generalize PS xs 2 = p2
    generalize PS xs 3 = p3
    generalize PS xs 4 = p4
    generalize PS xs 5 = p5
    grind
theorem straus5 : ∀ ds : List Int, sumP 5 (pairSums ds) = 2 * (PS ds 0 * PS ds 5) + 5 * (PS ds 1 * PS ds 4) + 10 * (PS ds 2 * PS ds 3) + 10 * (PS ds 3 * PS ds 2) + 5 * (PS ds 4 * PS ds 1) - 32 * PS ds 5
  | [] => by simp [sumP, PS, pairSums]
  | x :: xs => by
    rw [pairSums, sumP_append, sumP_map5 x xs, straus5 xs]
    simp only [PS_cons]
    generalize PS xs 0 = p0
    generalize PS xs 1 = p1
    generalize PS xs 2 = p2
    generalize PS xs 3 = p3
    generalize PS xs 4 = p4
    generalize PS xs 5 = p5
    grind
theorem sumP_map6 (x : Int) : ∀ xs : List Int, sumP 6 (xs.map (x + ·)) = 2 * (1 * (x ^ 0 * PS xs 6) + 6 * (x ^ 1 * PS xs 5) + 15 * (x ^ 2 * PS xs 4) + 20 * (x ^ 3 * PS xs 3) + 15 * (x ^ 4 * PS xs 2) + 6 * (x ^ 5 * PS xs 1) + 1 * (x ^ 6 * PS xs 0))
  | [] => by simp [sumP, PS]
  | y :: xs => by
    rw [List.map_cons, sumP_cons, sumP_map6 x xs]
    simp only [PS_cons]
    generalize PS xs 0 = p0
    generalize PS xs 1 = p1
    generalize PS xs 2 = p2
    generalize PS xs 3 = p3
    generalize PS xs 4 = p4
    generalize PS xs 5 = p5
    generalize PS xs 6 = p6
    grind
theorem straus6 : ∀ ds : List Int, sumP 6 (pairSums ds) = 2 * (PS ds 0 * PS ds 6) + 6 * (PS ds 1 * PS ds 5) + 15 * (PS ds 2 * PS ds 4) + 20 * (PS ds 3 * PS ds 3) + 15 * (PS ds 4 * PS ds 2) + 6 * (PS ds 5 * PS ds 1) - 64 * PS ds 6
  | [] => by simp [sumP, PS, pairSums]
  | x :: xs => by
    rw [pairSums, sumP_append, sumP_map6 x xs, straus6 xs]
    simp only [PS_cons]
    generalize PS xs 0 = p0
    generalize PS xs 1 = p1
    generalize PS xs 2 = p2
    generalize PS xs 3 = p3
    generalize PS xs 4 = p4
    generalize PS xs 5 = p5
    generalize PS xs 6 = p6
    grind
theorem straus (ds : List Int) : ∀ i, i < 6 → PB (PS ds) (sumP (i + 1) (pairSums ds)) (i + 1) i = (2 * (ds.length : Int) - 2 ^ (i + 1)) * PS ds (i + 1)
  | 0, _ => by
    have h := straus1 ds
    rw [PS_zero] at h
    show PB (PS ds) (sumP 1 (pairSums ds)) 1 0 = (2 * (ds.length : Int) - 2 ^ 1) * PS ds 1
    simp only [PB, Nat.reduceAdd, Nat.reduceSub]
    rw [h]
    grind
  | 1, _ => by
    have h := straus2 ds
    rw [PS_zero] at h
    show PB (PS ds) (sumP 2 (pairSums ds)) 2 1 = (2 * (ds.length : Int) - 2 ^ 2) * PS ds 2
    have c1 : cho 2 1 = 2 := by decide
    simp only [PB, c1, Nat.reduceAdd, Nat.reduceSub]
    rw [h]
    grind
  | 2, _ => by
    have h := straus3 ds
    rw [PS_zero] at h
    show PB (PS ds) (sumP 3 (pairSums ds)) 3 2 = (2 * (ds.length : Int) - 2 ^ 3) * PS ds 3
    have c1 : cho 3 1 = 3 := by decide
    have c2 : cho 3 2 = 3 := by decide
    simp only [PB, c1, c2, Nat.reduceAdd, Nat.reduceSub]
    rw [h]
    grind
  | 3, _ => by
    have h := straus4 ds
    rw [PS_zero] at h
    show PB (PS ds) (sumP 4 (pairSums ds)) 4 3 = (2 * (ds.length : Int) - 2 ^ 4) * PS ds 4
    have c1 : cho 4 1 = 4 := by decide
    have c2 : cho 4 2 = 6 := by decide
    have c3 : cho 4 3 = 4 := by decide
    simp only [PB, c1, c2, c3, Nat.reduceAdd, Nat.reduceSub]
    rw [h]
    grind
  | 4, _ => by
    have h := straus5 ds
    rw [PS_zero] at h
    show PB (PS ds) (sumP 5 (pairSums ds)) 5 4 = (2 * (ds.length : Int) - 2 ^ 5) * PS ds 5
    have c1 : cho 5 1 = 5 := by decide
    have c2 : cho 5 2 = 10 := by decide
    have c3 : cho 5 3 = 10 := by decide
    have c4 : cho 5 4 = 5 := by decide
    simp only [PB, c1, c2, c3, c4, Nat.reduceAdd, Nat.reduceSub]
    rw [h]
    grind
  | 5, _ => by
    have h := straus6 ds
    rw [PS_zero] at h
    show PB (PS ds) (sumP 6 (pairSums ds)) 6 5 = (2 * (ds.length : Int) - 2 ^ 6) * PS ds 6
    have c1 : cho 6 1 = 6 := by decide
    have c2 : cho 6 2 = 15 := by decide
    have c3 : cho 6 3 = 20 := by decide
    have c4 : cho 6 4 = 15 := by decide
    have c5 : cho 6 5 = 6 := by decide
    simp only [PB, c1, c2, c3, c4, c5, Nat.reduceAdd, Nat.reduceSub]
    rw [h]
    grind
  | i + 6, h => by omega
end Mine

end

section
namespace Mine
theorem sumP_perm (k : Nat) {xs ys : List Int} (h : xs.Perm ys) : sumP k xs = sumP k ys := by
  induction h with
  | nil => rfl
  | cons x _ ih => rw [sumP, sumP, ih]
  | swap x y l => simp only [sumP]; omega
  | trans _ _ a b => rw [a, b]
theorem ES_bd : ∀ (xs : List Int) (k : Nat), (∀ x ∈ xs, 0 ≤ x ∧ x ≤ 6) → 0 ≤ ES xs k ∧ ES xs k ≤ 7 ^ xs.length
  | [], 0, _ => by simp [ES]
  | [], k + 1, _ => by simp [ES]
  | x :: xs, 0, _ => by
    rw [ES]
    have : (0 : Int) < 7 ^ (x :: xs).length := Int.pow_pos (by decide)
    omega
  | x :: xs, k + 1, h => by
    have h1 := ES_bd xs (k + 1) fun y hy => h y (.tail _ hy)
    have h2 := ES_bd xs k fun y hy => h y (.tail _ hy)
    have hx := h x (.head _)
    have h3 : 0 ≤ x * ES xs k := Int.mul_nonneg hx.1 h2.1
    have h4 : x * ES xs k ≤ 6 * 7 ^ xs.length := Int.mul_le_mul hx.2 h2.2 h2.1 (by decide)
    rw [ES, List.length_cons, Int.pow_succ]
    omega
noncomputable def prodX (X : Int) : List Int → Int
  | [] => 1
  | x :: xs => (X + x) * prodX X xs
noncomputable def polyX (X : Int) (e : Nat → Int) : Nat → Int
  | 0 => e 0
  | n + 1 => X * polyX X e n + e (n + 1)
theorem ES_high : ∀ (xs : List Int) (k : Nat), xs.length < k → ES xs k = 0
  | [], k + 1, _ => rfl
  | x :: xs, k + 1, h => by
    rw [List.length_cons] at h
    rw [ES, ES_high xs (k + 1) (by omega), ES_high xs k (by omega)]; omega
theorem poly_step (X x : Int) (xs : List Int) : ∀ n, polyX X (ES (x :: xs)) (n + 1) = (X + x) * polyX X (ES xs) n + ES xs (n + 1)
  | 0 => by
    show X * 1 + (ES xs 1 + x * ES xs 0) = (X + x) * ES xs 0 + ES xs 1
    rw [ES_zero]; grind
  | n + 1 => by
    have ih := poly_step X x xs n
    show X * polyX X (ES (x :: xs)) (n + 1) + (ES xs (n + 2) + x * ES xs (n + 1)) = (X + x) * (X * polyX X (ES xs) n + ES xs (n + 1)) + ES xs (n + 2)
    rw [ih]; grind
theorem prod_poly (X : Int) : ∀ xs : List Int, prodX X xs = polyX X (ES xs) xs.length
  | [] => rfl
  | x :: xs => by
    rw [List.length_cons, poly_step, ES_high xs (xs.length + 1) (by omega), prodX, prod_poly X xs]; omega
theorem undig_poly (w : Nat) (e : Nat → Int) : ∀ n, undig w ((List.range (n + 1)).map e).reverse = polyX (2 ^ w) e n
  | 0 => by simp [List.range_succ, undig, polyX]
  | n + 1 => by
    rw [List.range_succ, List.map_append, List.reverse_append]
    show undig w (e (n + 1) :: ((List.range (n + 1)).map e).reverse) = _
    rw [undig, undig_poly w e n, polyX]; omega
noncomputable def diffs (c : Int) : List Int → Int
  | [] => 1
  | x :: xs => (x - c) * diffs c xs
theorem prod_mod (X c : Int) : ∀ xs : List Int, ∃ q, prodX X xs = (X + c) * q + diffs c xs
  | [] => ⟨0, by simp [prodX, diffs]⟩
  | x :: xs => by
    obtain ⟨q, h⟩ := prod_mod X c xs
    refine ⟨(X + x) * q + diffs c xs, ?_⟩
    rw [prodX, h, diffs]; grind
theorem diffs_ne (c : Int) : ∀ xs : List Int, c ∉ xs → diffs c xs ≠ 0
  | [], _ => by simp [diffs]
  | x :: xs, h => Int.mul_ne_zero (by have : c ≠ x := fun e => h (e ▸ .head _); omega) (diffs_ne c xs fun hm => h (.tail _ hm))
theorem diffs_bd (c : Int) (hc : 1 ≤ c ∧ c ≤ 6) : ∀ xs : List Int, (∀ x ∈ xs, 1 ≤ x ∧ x ≤ 6) → -(5 ^ xs.length) ≤ diffs c xs ∧ diffs c xs ≤ 5 ^ xs.length
  | [], _ => by simp [diffs]
  | x :: xs, h => by
    have ih := diffs_bd c hc xs fun y hy => h y (.tail _ hy)
    have hx := h x (.head _)
    have := mul_bd (a := 5) (x := x - c) (by omega) (by omega) ih.1 ih.2
    rw [diffs, List.length_cons, Int.pow_succ]
    omega
theorem prod_erase (X c : Int) : ∀ xs : List Int, c ∈ xs → prodX X xs = (X + c) * prodX X (xs.erase c)
  | x :: xs, h => by
    by_cases e : x = c
    · subst e; rw [List.erase_cons_head, prodX]
    · have hm : c ∈ xs := (List.mem_cons.mp h).resolve_left fun q => e q.symm
      have hb : (x == c) = false := by simpa using e
      rw [List.erase_cons_tail (by simp [hb]), prodX, prodX, prod_erase X c xs hm]
      grind
theorem prod_rest (X c : Int) (xs : List Int) (hX : 15625 < X) (hc : 1 ≤ c ∧ c ≤ 6) (hx : ∀ x ∈ xs, 1 ≤ x ∧ x ≤ 6) (hl : xs.length ≤ 6) (h : c ∉ xs) : prodX X xs % (X + c) ≠ 0 := by
  intro h0
  obtain ⟨q, hq⟩ := prod_mod X c xs
  have hb := diffs_bd c hc xs hx
  have hn := diffs_ne c xs h
  have h5 : (5 : Int) ^ xs.length ≤ 5 ^ 6 := by exact_mod_cast Nat.pow_le_pow_right (by decide) hl
  have e5 : (5 : Int) ^ 6 = 15625 := by decide
  have hd : (X + c) ∣ diffs c xs := by
    have h1 : (X + c) ∣ prodX X xs := Int.dvd_of_emod_eq_zero h0
    rw [hq] at h1
    exact (Int.dvd_add_right (Int.dvd_mul_right _ _)).mp h1
  obtain ⟨k, hk⟩ := hd
  have hk0 : k ≠ 0 := fun e => hn (by rw [hk, e, Int.mul_zero])
  rcases Int.lt_or_gt_of_ne hk0 with h1 | h1
  · have := Int.mul_le_mul_of_nonneg_left (show k ≤ -1 by omega) (show 0 ≤ X + c by omega)
    omega
  · have := Int.mul_le_mul_of_nonneg_left (show 1 ≤ k by omega) (show 0 ≤ X + c by omega)
    omega
end Mine

end

section
open PySem PySem.W PyProof.Rows
namespace Mine
open Builtin.Int (intBits)
section
variable {prog : Program} {w : World} {g0 : Cx} {mg mb : Loc} {A : Around} {E : Value → Shared → Prop} {s : Shared} {h₀ : Heap} {L : Addr} {m : Loc} {N : Led}
theorem eq_tup2 {ra rb : Addr} {x1 x2 y1 y2 : Int} {t1 t2 u1 u2 : Tok} {Q : Value → Loc → Led → Prop} (Ro : Room A 1) (ha : At h₀ N ra (tupObj [.int x1 t1, .int x2 t2])) (hb : At h₀ N rb (tupObj [.int y1 u1, .int y2 u2])) (h : Q (.bool (x1 == y1 && x2 == y2)) m N) :
    WB g0 A E h₀ L m N (compareOp .Eq (.ref ra) (.ref rb)) Q :=
  WB.stillR (a := .bool (x1 == y1 && x2 == y2)) (fun s Q' E' at_ q => eq_dataH (reads_tuple_at (at_ _ _ ha) rfl rfl (.cons (.int _ _) (.cons (.int _ _) .nil))) (reads_tuple_at (at_ _ _ hb) rfl rfl (.cons (.int _ _) (.cons (.int _ _) .nil))) rfl rfl (by have := Ro.units; show A.units + 64 < 9900; omega)
    (by simp only [PyData.eqv, PyData.eqvAll, Bool.and_true]; exact q s.toks)) h
theorem ne_tup2 {ra rb : Addr} {x1 x2 y1 y2 : Int} {t1 t2 u1 u2 : Tok} {Q : Value → Loc → Led → Prop} (Ro : Room A 1) (ha : At h₀ N ra (tupObj [.int x1 t1, .int x2 t2])) (hb : At h₀ N rb (tupObj [.int y1 u1, .int y2 u2])) (h : Q (.bool (!(x1 == y1 && x2 == y2))) m N) :
    WB g0 A E h₀ L m N (compareOp .NotEq (.ref ra) (.ref rb)) Q :=
  WB.stillR (a := .bool (!(x1 == y1 && x2 == y2))) (fun s Q' E' at_ q => ne_dataH (reads_tuple_at (at_ _ _ ha) rfl rfl (.cons (.int _ _) (.cons (.int _ _) .nil))) (reads_tuple_at (at_ _ _ hb) rfl rfl (.cons (.int _ _) (.cons (.int _ _) .nil))) rfl rfl (by have := Ro.units; show A.units + 64 < 9900; omega)
    (by simp only [PyData.eqv, PyData.eqvAll, Bool.and_true]; exact q s.toks)) h
theorem p16n : (2 : Nat) ^ 16 = 65536 := by decide
theorem p14n : (2 : Nat) ^ 14 = 16384 := by decide
theorem hard_div {P H : Int} (hP : 16 ≤ P) (hH : 2 * H = P * P) : let hard := H + P - 1; let times := P * P * (P * P) - P * P + P - 2; (-(times * hard - 1)).fdiv hard = -times ∧ (-(times * hard - 1)).fmod hard = 1 := by
  intro hard times
  have hh : 1 < hard := by
    have : 0 ≤ P * P := Int.mul_nonneg (by omega) (by omega)
    show 1 < H + P - 1; omega
  rw [fdiv_pos (by omega), fmod_pos (by omega)]
  exact divmod_uniq (by omega) (by rw [Int.neg_mul]; omega) (by omega) hh
end
namespace hf_hard_b
noncomputable def st_ (g0 : Mine.Cx) (mg mb : Mine.Loc) (A : PySem.Around) (s : PySem.Shared) (wd : Nat) (t : PySem.Tok) (L : PySem.Addr) : Prop := ∀ (O : OkAt mg mb g0 s) (Ro : Room A 30) (h1 : 24 ≤ wd) (h2 : wd ≤ 4500), EntB g0 mg mb "_law_hard" 188 30 (29) [(Str.ofString "half", .int wd t)] (fun v _ => v = .bool true) A s L
noncomputable abbrev T_ := (((Mine.Cx × Mine.Loc) × (Mine.Loc × PySem.Around)) × ((PySem.Shared × Nat) × (PySem.Tok × PySem.Addr)))
theorem ne_ : Nonempty T_ := ⟨by repeat' (first | apply Prod.mk | exact default | exact nAr | exact nCx | exact nSh | constructor)⟩
noncomputable def Q_ (p : T_) : Prop := st_ p.1.1.1 p.1.1.2 p.1.2.1 p.1.2.2 p.2.1.1 p.2.1.2 p.2.2.1 p.2.2.2
noncomputable def w_ : T_ := @Classical.epsilon _ ne_ fun p => ¬ Q_ p
noncomputable def wd := w_.2.1.2
set_option maxHeartbeats 1000000 in
theorem main_ : st_ w_.1.1.1 w_.1.1.2 w_.1.2.1 w_.1.2.2 w_.2.1.1 wd w_.2.2.1 w_.2.2.2 := by
  intro O Ro h1 h2
  intro hL G Rd
  refine WB.cm entry1 ?_
  show WB _ _ _ _ _ _ _ (execs (_ :: _ :: _ :: []) _) _
  have n1 : (2 * (wd : Int) - 1).toNat = 2 * wd - 1 := by omega
  have n2 : ((wd : Int)).toNat = wd := Int.toNat_natCast _
  have n3 : (4 * (wd : Int)).toNat = 4 * wd := by omega
  have n4 : (2 * (wd : Int)).toNat = 2 * wd := by omega
  have bh : intBits (wd : Int) ≤ 13 := bits_abs (by omega) (by omega)
  refine ex_assignL ks__law_hard k__law_hard_hard ?_
  repeat tb_rel
  refine i_mul (mul_ok (m := 2) (n := 13) (by decide) bh (by omega)) fun _ => ?_
  repeat tb_rel
  refine i_shl (by omega) (by rw [bits1, p27]; omega) fun _ => ?_
  refine (Eq.symm n1) ▸ ?_
  repeat tb_rel
  refine i_shl (by omega) (by rw [bits1, p27]; omega) fun _ => ?_
  refine (Eq.symm n2) ▸ ?_
  repeat tb_rel
  refine ex_assignL ks__law_hard k__law_hard_times ?_
  repeat tb_rel
  refine i_mul (mul_ok (m := 3) (n := 13) (by decide) bh (by omega)) fun _ => ?_
  refine i_shl (by omega) (by rw [bits1, p27]; omega) fun _ => ?_
  refine (Eq.symm n3) ▸ ?_
  repeat tb_rel
  refine i_mul (mul_ok (m := 2) (n := 13) (by decide) bh (by omega)) fun _ => ?_
  refine i_shl (by omega) (by rw [bits1, p27]; omega) fun _ => ?_
  refine (Eq.symm n4) ▸ ?_
  repeat tb_rel
  refine i_shl (by omega) (by rw [bits1, p27]; omega) fun _ => ?_
  refine (Eq.symm n2) ▸ ?_
  repeat tb_rel
  simp only [Int.one_mul]
  have e4 : (2 : Int) ^ (4 * wd) = 2 ^ wd * 2 ^ wd * (2 ^ wd * 2 ^ wd) := by rw [← p2add, ← p2add]; congr 1; omega
  have e2 : (2 : Int) ^ (2 * wd) = 2 ^ wd * 2 ^ wd := by rw [← p2add]; congr 1; omega
  have eH : 2 * (2 : Int) ^ (2 * wd - 1) = 2 ^ wd * 2 ^ wd := by rw [← p2succ, ← e2]; congr 1; omega
  have hP : (16 : Int) ≤ 2 ^ wd := by
    have : (2 : Int) ^ wd = 2 ^ 4 * 2 ^ (wd - 4) := by rw [← p2add]; congr 1; omega
    have := p2pos (wd - 4)
    have : (2 : Int) ^ 4 = 16 := by decide
    omega
  rw [e4, e2]
  have hd := hard_div hP eH
  simp only at hd
  have hPp := p2pos wd
  have hPP := p2pos (2 * wd)
  have bhard : intBits ((2 : Int) ^ (2 * wd - 1) + 2 ^ wd - 1) ≤ 2 * wd + 1 := bits_abs (by rw [p2succ, e2]; omega) (by
    have : (2 : Int) ^ wd * 16 ≤ 2 ^ wd * 2 ^ wd := Int.mul_le_mul_of_nonneg_left hP (by omega)
    rw [p2succ, e2]; omega)
  have btimes : intBits ((2 : Int) ^ wd * 2 ^ wd * (2 ^ wd * 2 ^ wd) - 2 ^ wd * 2 ^ wd + 2 ^ wd - 2) ≤ 4 * wd + 1 := by
    have h5 : (2 : Int) ^ wd * 16 ≤ 2 ^ wd * 2 ^ wd := Int.mul_le_mul_of_nonneg_left hP (by omega)
    rw [← e4]
    have h6 := p2pos (4 * wd)
    have h7 : (2 : Int) ^ wd * 2 ^ wd * 1 ≤ 2 ^ wd * 2 ^ wd * (2 ^ wd * 2 ^ wd) := Int.mul_le_mul_of_nonneg_left (by omega) (by omega)
    rw [← e4, Int.mul_one] at h7
    refine bits_abs ?_ ?_ <;> rw [p2succ] <;> omega
  have hh : (2 : Int) ^ (2 * wd - 1) + 2 ^ wd - 1 ≠ 0 := by have := p2pos (2 * wd - 1); omega
  generalize (2 : Int) ^ (2 * wd - 1) + 2 ^ wd - 1 = hard at *
  generalize (2 : Int) ^ wd * 2 ^ wd * (2 ^ wd * 2 ^ wd) - 2 ^ wd * 2 ^ wd + 2 ^ wd - 2 = times at *
  have bmul : IntMulOk times hard := mul_ok btimes bhard (by omega)
  have bprod : intBits (-(times * hard - 1)) ≤ 6 * wd + 4 := by
    rw [bits_neg]
    have a1 := lt_of_bits btimes
    have a2 : -times < 2 ^ (4 * wd + 1) := lt_of_bits (by rw [bits_neg]; exact btimes)
    have a3 := lt_of_bits bhard
    have a4 : -hard < 2 ^ (2 * wd + 1) := lt_of_bits (by rw [bits_neg]; exact bhard)
    have a5 := mul_bd (x := times) (y := hard) (a := 2 ^ (4 * wd + 1)) (b := 2 ^ (2 * wd + 1)) (by omega) (by omega) (by omega) (by omega)
    rw [← p2add, show 4 * wd + 1 + (2 * wd + 1) = 6 * wd + 2 by omega] at a5
    have a6 := p2pos (6 * wd + 2)
    have a7 : (2 : Int) ^ (6 * wd + 4) = 4 * 2 ^ (6 * wd + 2) := by rw [show 6 * wd + 4 = (6 * wd + 2) + 1 + 1 by omega, p2succ, p2succ]; omega
    refine bits_abs ?_ ?_ <;> rw [a7] <;> omega
  refine e_cmp ?_
  refine e_callf G ks__law_hard k__law_hard_int_divmod (i := 8) (f := 72) (by decide) rfl ?_
  refine args_cons ?_
  refine e_callf G ks__law_hard k__law_hard_neg (i := 12) (f := 93) (by decide) rfl ?_
  repeat tb_rel
  refine i_mul bmul fun _ => ?_
  repeat tb_rel
  refine WB.callI (z := (-(times * hard - 1))) G (fun s' O' _ => f_neg O' (Rd.le (by omega))) ?_
  intro t1 new1
  repeat tb_rel
  refine WB.callDF (a := (-(times * hard - 1))) (b := hard) G (fun s' O' _ => int_divmod O' (Rd.le (by omega)) hh (Nat.le_trans bprod (by rw [p16n]; omega)) (Nat.le_trans bhard (by rw [p14n]; omega))) ?_
  intro r k1 k2 new2 hm _
  refine e_tuple rfl ?_
  repeat tb_rel
  refine ⟨by simp, fun r2 _ => ?_⟩
  refine eq_tup2 (Rd.le (by omega)) (.inr (.tail _ (List.mem_append_left _ hm))) (.inr (.head _)) ?_
  rw [hd.1, hd.2]
  simp
end hf_hard_b
theorem f_hard_b {g0 mg mb A s wd t L} : hf_hard_b.st_ g0 mg mb A s wd t L := Mine.hk hf_hard_b.ne_ (P := hf_hard_b.Q_) hf_hard_b.main_ (((g0, mg), (mb, A)), ((s, wd), (t, L)))
section
variable {prog : Program} {w : World} {g0 : Cx} {mg mb : Loc} {A : Around} {E : Value → Shared → Prop} {s : Shared} {h₀ : Heap} {L : Addr} {m : Loc} {N : Led}
set_option maxHeartbeats 1000000 in
theorem f_hard {wd : Nat} {t : Tok} (O : OkAt mg mb g0 s) (Ro : Room A 30) (h1 : 24 ≤ wd) (h2 : wd ≤ 4500) : wpAny (model g0.prog g0.w) A (call (.ref 189) [.int wd t]) (Back g0 s.heap fun v _ => v = .bool true) E s := by
  refine enter (name := "_law_hard") (f := 188) (i := 30) (n := 29) (binds := [(Str.ofString "half", .int wd t)]) (by decide) O Ro (fun pm => by rfl) ?_ (by rfl) (by rfl) (by rfl) (by rfl) ?_
  · intro x hx
    simp only [List.mem_cons, List.not_mem_nil, or_false] at hx
    subst hx; exact k__law_hard_half
  intro L
  exact f_hard_b O Ro h1 h2
end
end Mine

end

section
open PySem PySem.W PyProof.Rows
namespace Mine
open Builtin.Int (intBits)
theorem Inv.offC {g : Cx} {h₀ : Heap} {L C : Addr} {m : Loc} {N : Led} {s : Shared} {h' : Heap} (I : Inv g h₀ L m N s) (sb : Heap.SameBut C s.heap h') (hL : C ≠ L) (hN : ∀ p ∈ N, p.1 ≠ C) (h0 : h₀.get? C = none) (hT : ¬ isTab C) (hc : ∀ o, s.heap.get? C = some o → ¬ isCode o) : Inv g h₀ L m N { s with heap := h' } :=
  ⟨I.gens, I.os, I.tab.keeps (fun b o hb e => sb.extBut b o (fun q => hT (q ▸ hb)) e) (fun b o e hco => sb.extBut b o (fun q => hc o (q ▸ e) hco) e), ⟨I.fr.ns.sameBut sb hL.symm, fun b o e => sb.extBut b o (fun q => by rw [q, h0] at e; cases e) (I.fr.keep b o e), I.fr.above⟩,
    fun p hp => ⟨sb.extBut _ _ (hN p hp) (I.led p hp).1, (I.led p hp).2⟩, I.nd, I.t54, I.fl⟩
section
variable {prog : Program} {w : World} {g0 : Cx} {mg mb : Loc} {A : Around} {E : Value → Shared → Prop} {h₀ : Heap} {L : Addr} {m : Loc} {N : Led} {env : Env}
noncomputable def SelfIt (g0 : Cx) (A : Around) (I : Addr) (o : Obj) : Prop := ∀ (s : Shared) (Q : Value → Shared → Prop) (E : Value → Shared → Prop), s.heap.get? I = some o → Q (.ref I) s → wpAny (model g0.prog g0.w) A (pyIter (.ref I)) Q E s
structure CI (g0 : Cx) (s2 : Shared) (I D C : Addr) (o : Obj) (ys : List Value) (T : Nat) (s : Shared) : Prop where
  gens : s.gens = g0.gens
  os : s.os = g0.os
  tab : TabOK g0 s.heap
  keep : ∀ b ob, s2.heap.get? b = some ob → ¬ isTab b → b ≠ I → s.heap.get? b = some ob
  it : s.heap.get? I = some o
  ns : ∃ mC, s.heap.Ns C mC ∧ mC floorKey = none
  acc : ∃ k, s.heap.get? D = some (lstObj ys k)
  fl : T ≤ s.toks ∧ 0 < s.toks
  size : s2.heap.objs.size ≤ s.heap.objs.size
end
namespace hcomp_core
noncomputable def st_ (ι : Type) (g0 : Mine.Cx) (mg : Mine.Loc) (mb : Mine.Loc) (A : PySem.Around) (h₀ : PySem.Heap) (L : PySem.Addr) (m : Mine.Loc) (N : Mine.Led) (env : PySem.Env) (x : PySem.Str) (px : PySem.Pos) (elt : PySem.Expr) (iter : PySem.Expr) (scope : PySem.Scope) (cl : List (PySem.Str × PySem.Addr)) (Q : PySem.Value → Mine.Loc → Mine.Led → Prop) (use : Option (PySem.Value → PySem.Sem Unit)) (P : PySem.Value → PySem.Shared → Prop) (cpos : PySem.Pos) (fpos : PySem.Pos) (f : ι → PySem.Value → Prop) (xs : List ι) (J : List ι → List PySem.Value → Nat → Prop) (s : PySem.Shared) : Prop := ∀ (hclos : closureFor scope env = pure cl) (hkind : scope.kind = .function) (hnames : ∀ x ∈ scope.names, x.2 = .local → scope.names.lookup x.1 = some .local) (hcell : (scope.names.all fun y => y.2 != .cell) = true) (hx : scope.names.lookup x = some .local) (hfk : (x == floorKey) = false) (hz : xs.length ≤ 1000000) (hg : env.globals = mainGlobals) (G : Gd mg mb h₀) (h : WB g0 A (fun _ _ => False) h₀ L m N (eval iter env) fun v m1 N1 => WB g0 A (fun _ _ => False) h₀ L m1 N1 (pyIter v) fun it m2 N2 => ∃ I o N3 lo, it = .ref I ∧ N2 = (I, o) :: N3 ∧ Yield g0 A 0 I lo (xs.map f) o ∧ SelfIt g0 A I o ∧ (∀ p ∈ lo, At h₀ N3 p.1 p.2) ∧ J xs [] (flo m2) ∧
      (∀ i r ys T v h₀c C mC, J (i :: r) ys T → f i v → Gd mg mb h₀c → (∀ a ob, At h₀ N3 a ob → h₀c.get? a = some ob) → mC x = some v → flo mC = T → WB g0 A (fun _ _ => False) h₀c C mC [] (eval elt (compEnvC scope cl C env)) fun y mC' _ => J r (ys ++ [y]) (flo mC')) ∧
      (∀ D k ys T, J [] ys T → (∀ p ∈ N3, p.1 < D) → Q (.ref D) (setF m2 T) ((D, lstObj ys k) :: N3))) (hs : ∀ x, foldedSetIterable iter env x = pure x) (I : Inv g0 h₀ L m N s) (hend : ∀ D m' N' C mC s6 fl, Q (.ref D) m' N' → Inv g0 h₀ L m' N' s6 → Step L N N' s.heap s6.heap → s6.heap.Ns C mC → C ≠ L → (∀ p ∈ N', p.1 ≠ C) → h₀.get? C = none → ¬ isTab C → s.heap.objs.size < C → compPost (model g0.prog g0.w) A (fun _ _ => False) use P (.ref D) C (.ok fl) s6), wpAny (model g0.prog g0.w) A (comprehension (.ListComp elt [⟨.Name x px, iter, [], 0⟩] scope cpos) scope env fpos (newList []) false (eval iter env) use) P (fun _ _ => False) s
noncomputable def Ty_ (ι : Type) : Prop := ∀ g0 mg mb A h₀ L m N env x px elt iter scope cl Q use P cpos fpos f xs J s, st_ ι g0 mg mb A h₀ L m N env x px elt iter scope cl Q use P cpos fpos f xs J s
noncomputable def ι : Type := @Classical.epsilon Type ⟨Nat⟩ fun x => ¬ Ty_ x
noncomputable abbrev T_ := (((((Mine.Cx) × ((Mine.Loc) × (Mine.Loc))) × ((PySem.Around) × ((PySem.Heap) × (PySem.Addr)))) × (((Mine.Loc) × ((Mine.Led) × (PySem.Env))) × ((PySem.Str) × ((PySem.Pos) × (PySem.Expr))))) × ((((PySem.Expr) × ((PySem.Scope) × (List (PySem.Str × PySem.Addr)))) × ((PySem.Value → Mine.Loc → Mine.Led → Prop) × ((Option (PySem.Value → PySem.Sem Unit)) × (PySem.Value → PySem.Shared → Prop)))) × (((PySem.Pos) × ((PySem.Pos) × (ι → PySem.Value → Prop))) × ((List ι) × ((List ι → List PySem.Value → Nat → Prop) × (PySem.Shared))))))
theorem ne_ : Nonempty T_ := ⟨by repeat' (first | apply Prod.mk | exact default | exact nAr | exact nCx | exact nSh | constructor)⟩
noncomputable def Q_ (p : T_) : Prop := st_ ι p.1.1.1.1 p.1.1.1.2.1 p.1.1.1.2.2 p.1.1.2.1 p.1.1.2.2.1 p.1.1.2.2.2 p.1.2.1.1 p.1.2.1.2.1 p.1.2.1.2.2 p.1.2.2.1 p.1.2.2.2.1 p.1.2.2.2.2 p.2.1.1.1 p.2.1.1.2.1 p.2.1.1.2.2 p.2.1.2.1 p.2.1.2.2.1 p.2.1.2.2.2 p.2.2.1.1 p.2.2.1.2.1 p.2.2.1.2.2 p.2.2.2.1 p.2.2.2.2.1 p.2.2.2.2.2
noncomputable def w_ : T_ := @Classical.epsilon _ ne_ fun p => ¬ Q_ p
noncomputable def g0 := w_.1.1.1.1
noncomputable def mg := w_.1.1.1.2.1
noncomputable def mb := w_.1.1.1.2.2
noncomputable def A := w_.1.1.2.1
noncomputable def h₀ := w_.1.1.2.2.1
noncomputable def L := w_.1.1.2.2.2
noncomputable def m := w_.1.2.1.1
noncomputable def N := w_.1.2.1.2.1
noncomputable def env := w_.1.2.1.2.2
noncomputable def x := w_.1.2.2.1
noncomputable def px := w_.1.2.2.2.1
noncomputable def elt := w_.1.2.2.2.2
noncomputable def iter := w_.2.1.1.1
noncomputable def scope := w_.2.1.1.2.1
noncomputable def cl := w_.2.1.1.2.2
noncomputable def Q := w_.2.1.2.1
noncomputable def use := w_.2.1.2.2.1
noncomputable def P := w_.2.1.2.2.2
noncomputable def cpos := w_.2.2.1.1
noncomputable def fpos := w_.2.2.1.2.1
noncomputable def f := w_.2.2.1.2.2
noncomputable def xs := w_.2.2.2.1
noncomputable def J := w_.2.2.2.2.1
noncomputable def s := w_.2.2.2.2.2
theorem main_ : st_ ι g0 mg mb A h₀ L m N env x px elt iter scope cl Q use P cpos fpos f xs J s := by
  intro hclos hkind hnames hcell hx hfk hz hg G h hs I hend
  refine wpAny_comprehension_free (use := use) rfl hs hclos hkind hnames ?_
  refine WB.runC I (h.mono fun v m1 N1 q1 s1 I1 S1 => ?_)
  refine WB.runC I1 (q1.mono fun it m2 N2 q2 s2 I2 S2 => ?_)
  refine exE4 q2 fun Ia o N3 lo h_0 => anE8 h_0 fun e_1 e_2 hY hself hlo hJ helt hfin => ?_
  clear h_0 q2
  rw [e_2] at I2 S2
  rw [e_1]
  have hI := I2.led _ (.head _)
  refine wpAny_newObj_type (wpAny_newFunctionEnv (by intro y hy; have := List.all_eq_true.mp hcell y hy; simpa using this) (by intro y hy; simp at hy) (fun h₁ hns₁ hsb₁ => ?_) hkind)
  dsimp only at hns₁ hsb₁ ⊢
  generalize hH2 : s2.heap.push { cls := .type "list", dict := none, data := .seq ([] : List Value).toArray } = H2 at hns₁ hsb₁ ⊢
  have hC : H2.objs.size = s2.heap.objs.size + 1 := by rw [← hH2, Heap.size_push]
  have old : ∀ b ob, s2.heap.get? b = some ob → h₁.get? b = some ob := fun b ob e => hsb₁.extBut b ob (by have := Heap.lt_size e; rw [hC]; exact Nat.ne_of_lt (Nat.lt_succ_of_lt this)) (Heap.get?_push_of_some _ (hH2 ▸ Heap.get?_push_of_some _ e))
  have hDC : s2.heap.objs.size ≠ H2.objs.size := by rw [hC]; exact Nat.ne_of_lt (Nat.lt_succ_self _)
  have hD54 : ¬ isTab s2.heap.objs.size := ntab_gt (Nat.lt_of_lt_of_le I2.t54.1 (Nat.le_trans I2.fr.above (Nat.le_of_lt I2.fr.ns.lt)))
  have hC54 : ¬ isTab H2.objs.size := ntab_gt (by rw [hC]; exact Nat.lt_succ_of_lt (Nat.lt_of_lt_of_le I2.t54.1 (Nat.le_trans I2.fr.above (Nat.le_of_lt I2.fr.ns.lt))))
  have hIlt : Ia < s2.heap.objs.size := Heap.lt_size hI.1
  have sz1 : s2.heap.objs.size ≤ h₁.objs.size := by
    have := hns₁.lt; rw [hC] at this; exact Nat.le_of_lt (Nat.lt_of_succ_lt this)
  have hkept : ∀ b ob, s2.heap.get? b = some ob → ¬ isTab b → b ≠ Ia → (hideAll (hideT s2.heap) [Ia]).get? b = some ob := fun b ob e n1 n2 => hideAll_get _ (hideT_get e n1) (by simpa using n2)
  have hback : ∀ b ob, (hideAll (hideT s2.heap) [Ia]).get? b = some ob → s2.heap.get? b = some ob ∧ ¬ isTab b ∧ b ≠ Ia := fun b ob e => ⟨of_hideT (of_hideAll _ e), hideT_tab (of_hideAll _ e), fun q => by rw [q, hideAll_none _ (by simp)] at e; cases e⟩
  have hszc : (hideAll (hideT s2.heap) [Ia]).objs.size = s2.heap.objs.size := (hideAll_size _ _).trans (hideT_size _)
  have atc : ∀ a ob, At h₀ N3 a ob → (hideAll (hideT s2.heap) [Ia]).get? a = some ob := fun a ob x => by
    have nI : a ≠ Ia := fun q => by
      rcases x with x | x
      · rw [q, hI.2.2.1] at x; cases x
      · exact (List.nodup_cons.mp I2.nd).1 (List.mem_map.mpr ⟨(a, ob), x, q⟩)
    have nT : ¬ isTab a := fun hb => by
      rcases x with x | x
      · rw [I2.t54.2 a hb] at x; cases x
      · exact (I2.led _ (.tail _ x)).2.2.2 hb
    exact hkept a ob (I2.tail.at x) nT nI
  have Gc : Gd mg mb (hideAll (hideT s2.heap) [Ia]) := G.keepsL fun b ob e nT _ => atc b ob (.inl e)
  have start : CI g0 s2 Ia s2.heap.objs.size H2.objs.size o [] (flo m2) { s2 with heap := h₁, toks := s2.toks + ([] : List (Str × Value)).length } :=
    ⟨I2.gens, I2.os, I2.tab.keeps (fun b ob _ e => old b ob e) fun b ob e _ => old b ob e, fun b ob e _ _ => old b ob e, old _ _ hI.1, ⟨_, hns₁, rfl⟩,
      ⟨0, hsb₁.extBut _ _ hDC (Heap.get?_push_of_some _ (hH2 ▸ Heap.get?_push_size _ rfl))⟩, I2.fl, sz1⟩
  have loop : ∀ s₃ : Shared, CI g0 s2 Ia s2.heap.objs.size H2.objs.size o [] (flo m2) s₃ →
      codeAny (model g0.prog g0.w) A (.compLoop (.ListComp elt [⟨.Name x px, iter, [], 0⟩] scope cpos) 0 (.ref Ia) (.ref s2.heap.objs.size) (compEnvC scope cl H2.objs.size env))
        (compPost (model g0.prog g0.w) A (fun _ _ => False) use P (.ref s2.heap.objs.size) H2.objs.size) s₃ := by
    intro s₃ start
    refine codeAny_compLoop_tests (fun k s' => ∃ r ys T o, k = r.length ∧ CI g0 s2 Ia s2.heap.objs.size H2.objs.size o ys T s' ∧ Yield g0 A 0 Ia lo (r.map f) o ∧ J r ys T ∧ ys.length + r.length ≤ 1000000) (fun k s' hI' => ?_) xs.length (exI4 xs ([]) (flo m2) o ⟨rfl, start, hY, hJ, by simpa using hz⟩)
    refine exE4 hI' fun r ys T o' h_0 => anE5 h_0 fun e_3 c hY' hJ' hl => ?_
    clear h_0 hI'
    subst e_3
    have hlo' : ∀ p ∈ lo, s'.heap.get? p.1 = some p.2 := fun p hp => by
      have h3 := hback _ _ (atc _ _ (hlo p hp))
      exact c.keep _ _ h3.1 h3.2.1 h3.2.2
    cases r with
    | nil =>
      refine wpAny_ts (hY'.2 s' _ _ c.it hlo' (Nat.zero_le _) fun h' tk k ht sz => ?_)
      refine exE1 c.ns fun mC h_0 => anE2 h_0 fun hns hfl => ?_
      clear h_0
      refine exE1 c.acc fun kk hacc => ?_
      have hCI : H2.objs.size ≠ Ia := by rw [hC]; exact Nat.ne_of_gt (Nat.lt_succ_of_lt hIlt)
      have hDI : s2.heap.objs.size ≠ Ia := Nat.ne_of_gt hIlt
      have sb3 : Heap.SameBut H2.objs.size h' h' := .refl ..
      have k3 : ∀ b ob, b ≠ Ia → b ≠ H2.objs.size → s'.heap.get? b = some ob → h'.get? b = some ob := fun b ob h1 h2 e => sb3.extBut b ob h2 (k b ob h1 e)
      have ko : ∀ b ob, s2.heap.get? b = some ob → ¬ isTab b → b ≠ Ia → h'.get? b = some ob := fun b ob e n1 n2 => k3 b ob n2 (by have := Heap.lt_size e; rw [hC]; exact Nat.ne_of_lt (Nat.lt_succ_of_lt this)) (c.keep b ob e n1 n2)
      have yc := hY'.1
      have tabC : ∀ b, isTab b → b ≠ H2.objs.size := fun b hb q => hC54 (q ▸ hb)
      have tabI : ∀ b, isTab b → b ≠ Ia := fun b hb q => hI.2.2.2 (q ▸ hb)
      have nL : ¬ isTab L := fun hb => Nat.lt_irrefl _ (Nat.lt_of_le_of_lt (isTab_le hb) (Nat.lt_of_lt_of_le I2.t54.1 I2.fr.above))
      have szf : s2.heap.objs.size ≤ h'.objs.size := Nat.le_trans (Nat.le_trans c.size sz) (Nat.le_of_eq sb3.1.symm)
      have IF : Inv g0 h₀ L (setF m2 T) ((s2.heap.objs.size, lstObj ys kk) :: N3) { s' with heap := h', toks := tk } := by
        refine ⟨c.gens, c.os, ?_, ⟨?_, fun b ob e => ?_, I2.fr.above⟩, fun p hp => ?_, List.nodup_cons.mpr ⟨fun hm => ?_, (List.nodup_cons.mp I2.nd).2⟩, I2.t54, by rw [flo_setF]; exact Nat.le_trans c.fl.1 ht, Nat.lt_of_lt_of_le c.fl.2 ht⟩
        · refine c.tab.keeps (fun b ob hb e => k3 b ob (tabI b hb) (tabC b hb) e) fun b ob e hc => k3 b ob (fun q => ?_) (fun q => ?_) e
          · subst q; rw [c.it] at e; cases e; exact yc hc
          · subst q
            refine exE3 hns fun oC es ep h_0 => anE3 h_0 fun e1 e2 _ => ?_
            clear h_0 hns
            rw [e1] at e; cases e
            refine exE3 hc fun vs _ _ h_0 => anE2 h_0 fun hd _ => ?_
            clear h_0 hc
            rw [e2] at hd; cases hd
        · refine (Eq.symm strip_setF) ▸ ?_
          refine exE3 I2.fr.ns fun oL es ep h_0 => anE2 h_0 fun e rr => ?_
          clear h_0
          exact exI3 oL es ep ⟨ko _ _ e nL hI.2.1.symm, rr⟩
        · have h4 := hback _ _ (atc _ _ (.inl e))
          exact ko b ob h4.1 h4.2.1 h4.2.2
        · rcases List.mem_cons.mp hp with rfl | hp
          · refine ⟨k3 _ _ hDI hDC hacc, Nat.ne_of_gt I2.fr.ns.lt, Heap.get?_none_of_le (Nat.le_trans I2.fr.above (Nat.le_of_lt I2.fr.ns.lt)), hD54⟩
          · have h4 := hback _ _ (atc _ _ (.inr hp))
            exact ⟨ko _ _ h4.1 h4.2.1 h4.2.2, (I2.led p (.tail _ hp)).2⟩
        · refine exE1 (List.mem_map.mp hm) fun q h_0 => anE2 h_0 fun hq e => ?_
          clear h_0
          have := Heap.lt_size (I2.led q (.tail _ hq)).1
          rw [show q.1 = s2.heap.objs.size from e] at this
          exact Nat.lt_irrefl _ this
      have SF : Step L N ((s2.heap.objs.size, lstObj ys kk) :: N3) s.heap h' := by
        have S12 := S1.trans S2
        refine ⟨fun b ob e hL hN hT => ?_, fun p hp => ?_, Nat.le_trans S12.size szf⟩
        · have e2 := S12.keep b ob e hL hN hT
          by_cases hbI : b = Ia
          · subst hbI
            rcases S12.fresh _ (.head _) with h5 | h5
            · have hcd := hN h5
              rw [hI.1] at e2; cases e2; exact absurd hcd hY.notCode
            · exact absurd (Heap.lt_size e) (Nat.not_lt.mpr h5)
          · exact ko b ob e2 hT hbI
        · rcases List.mem_cons.mp hp with rfl | hp
          · exact .inr S12.size
          · exact S12.fresh p (.tail _ hp)
      have hCo : ∃ oC, h'.get? H2.objs.size = some oC ∧ ∃ es ep, oC.data = .dict es ep := by
        refine exE3 hns fun oC es ep h_0 => anE3 h_0 fun e1 e2 _ => ?_
        clear h_0 hns
        exact ⟨oC, k _ _ hCI e1, es, ep, e2⟩
      have hCL : H2.objs.size ≠ L := by rw [hC]; exact Nat.ne_of_gt (Nat.lt_succ_of_lt I2.fr.ns.lt)
      have hCN : ∀ p ∈ (s2.heap.objs.size, lstObj ys kk) :: N3, p.1 ≠ H2.objs.size := fun p hp => by
        rcases List.mem_cons.mp hp with rfl | hp
        · exact hDC
        · have := Heap.lt_size (I2.led p (.tail _ hp)).1
          rw [hC]; exact Nat.ne_of_lt (Nat.lt_succ_of_lt this)
      have hC0 : h₀.get? H2.objs.size = none := Heap.get?_none_of_le (by rw [hC]; exact Nat.le_succ_of_le (Nat.le_trans I2.fr.above (Nat.le_of_lt I2.fr.ns.lt)))
      exact hend _ _ _ _ _ _ _ (hfin _ kk ys T hJ' fun p hp => Heap.lt_size (I2.led p (.tail _ hp)).1) IF SF (hns.extBut k hCI) hCL hCN hC0 hC54 (by rw [hC]; exact Nat.lt_succ_of_le (S1.trans S2).size)
    | cons i r =>
      rw [List.map_cons] at hY'
      refine wpAny_ts (hY'.2 s' _ _ c.it hlo' (Nat.zero_le _) fun v h' o'' tk hfv ho'' hY'' k ht sz => ?_)
      refine exE1 c.ns fun mC h_0 => anE2 h_0 fun hns hflC => ?_
      clear h_0
      refine exE1 c.acc fun kk hacc => ?_
      have hCI : H2.objs.size ≠ Ia := by rw [hC]; exact Nat.ne_of_gt (Nat.lt_succ_of_lt hIlt)
      have hDI : s2.heap.objs.size ≠ Ia := Nat.ne_of_gt hIlt
      have y := hY'.1
      refine wpAny_assign_Name (wpAny_storeName_local (lookup_relabel_local hx) (hns.extBut k hCI) (fun h4 hn4 hs4 => ?_) (by show ((relabel scope env).kind == .class || ((relabel scope env).kind == .module && _)) = false; rw [show (relabel scope env).kind = scope.kind from rfl, hkind]; rfl))
      refine wpAny_pure ?_
      simp only [if_true]
      have k4 : ∀ b ob, b ≠ Ia → b ≠ H2.objs.size → s'.heap.get? b = some ob → h4.get? b = some ob := fun b ob h1 h2 e => hs4.extBut b ob h2 (k b ob h1 e)
      have hxf : floorKey ≠ x := fun e => by rw [← e] at hfk; simp at hfk
      have hmf : (fun y => if y = x then some v else mC y) floorKey = none := by simp [hxf, hflC]
      have Ic : Inv g0 (hideAll (hideT s2.heap) [Ia]) H2.objs.size (setF (fun y => if y = x then some v else mC y) T) [] { s' with heap := h4, toks := tk + 1 } := by
        refine ⟨c.gens, c.os, ?_, ⟨by rw [strip_setF, strip_none hmf]; exact hn4, fun b ob e => ?_, by rw [hszc, hC]; exact Nat.le_succ _⟩, (fun p hp => nomatch hp), List.nodup_nil, ⟨by rw [hszc]; exact Nat.lt_of_lt_of_le I2.t54.1 (Nat.le_trans I2.fr.above (Nat.le_of_lt I2.fr.ns.lt)), fun b hb => ?_⟩, by rw [flo_setF]; exact Nat.le_succ_of_le (Nat.le_trans c.fl.1 ht), Nat.succ_pos _⟩
        · refine c.tab.keeps (fun b ob hb e => k4 b ob (fun q => hI.2.2.2 (q ▸ hb)) (fun q => hC54 (q ▸ hb)) e) fun b ob e hc => k4 b ob (fun q => ?_) (fun q => ?_) e
          · subst q; rw [c.it] at e; cases e; exact y hc
          · subst q
            refine exE3 hns fun oC es ep h_0 => anE3 h_0 fun e1 e2 _ => ?_
            clear h_0 hns
            rw [e1] at e; cases e
            refine exE3 hc fun vs _ _ h_0 => anE2 h_0 fun hd _ => ?_
            clear h_0 hc
            rw [e2] at hd; cases hd
        · have h5 := hback _ _ e
          exact k4 b ob h5.2.2 (by have := Heap.lt_size h5.1; rw [hC]; exact Nat.ne_of_lt (Nat.lt_succ_of_lt this)) (c.keep b ob h5.1 h5.2.1 h5.2.2)
        · cases q : (hideAll (hideT s2.heap) [Ia]).get? b with
          | none => rfl
          | some ob => exact absurd hb (hback _ _ q).2.1
      refine WB.runC Ic (WB.mono (helt i r ys T v _ H2.objs.size _ hJ' hfv Gc atc (by rw [setF_get hfk]; simp) flo_setF) fun yv m5 N5 hJ5 s5 I5 S5 => ?_)
      have kE : ∀ b ob, b ≠ H2.objs.size → ¬ isTab b → h4.get? b = some ob → s5.heap.get? b = some ob := fun b ob h1 h2 e => S5.keep b ob e h1 (fun hm => nomatch hm) h2
      have hacc5 : s5.heap.get? s2.heap.objs.size = some (lstObj ys kk) := kE _ _ hDC hD54 (k4 _ _ hDI hDC hacc)
      refine wpAny_call_entry slot_list_append ⟨_, hacc5, rfl⟩ entry_list_append ?_ (args_list_append _ _)
      show wpAny _ _ (updateSeq s2.heap.objs.size (·.push yv) >>= fun _ => ret .none) _ _ s5
      refine wpAny_bind ?_
      simp only [List.length_cons] at hl
      refine wpAny_updateSeq hacc5 rfl (wpAny_pure ⟨.none, rfl, ?_⟩) (by simp; rw [sizeLine_eq]; omega)
      have sbF := Heap.SameBut.update s5.heap s2.heap.objs.size (Obj.mapSeq (·.push yv))
      refine ⟨r.length, Nat.lt_succ_self _, r, ys ++ [yv], flo m5, o'', rfl, ⟨I5.gens, I5.os, ?_, fun b ob e n1 n2 => ?_, ?_, ?_, ⟨kk + 1, ?_⟩, I5.fl, ?_⟩, hY'', hJ5, by rw [List.length_append, List.length_singleton]; omega⟩
      · refine I5.tab.keeps (fun b ob hb e => sbF.extBut b ob (fun q => hD54 (q ▸ hb)) e) fun b ob e hc => sbF.extBut b ob (fun q => ?_) e
        subst q; rw [hacc5] at e; cases e
        refine exE3 hc fun vs _ _ h_0 => anE2 h_0 fun hd _ => ?_
        clear h_0 hc
        cases hd
      · have hb := Heap.lt_size e
        exact sbF.extBut b ob (Nat.ne_of_lt hb) (kE b ob (by rw [hC]; exact Nat.ne_of_lt (Nat.lt_succ_of_lt hb)) n1 (k4 b ob n2 (by rw [hC]; exact Nat.ne_of_lt (Nat.lt_succ_of_lt hb)) (c.keep b ob e n1 n2)))
      · exact sbF.extBut _ _ hDI.symm (kE _ _ hCI.symm hI.2.2.2 (hs4.extBut _ _ hCI.symm ho''))
      · exact ⟨strip m5, I5.fr.ns.sameBut sbF hDC.symm, by unfold strip; rw [if_pos rfl]⟩
      · show (s5.heap.update _ _).get? _ = _
        rw [Heap.get?_update_self _ hacc5 rfl]
        simp [Obj.mapSeq, lstObj]
      · show s2.heap.objs.size ≤ (s5.heap.update _ _).objs.size
        have e1 : h4.objs.size ≤ s5.heap.objs.size := S5.size
        refine (Eq.symm sbF.1) ▸ ?_
        exact Nat.le_trans (Nat.le_trans (Nat.le_trans c.size sz) (Nat.le_of_eq hs4.1.symm)) e1
  have hg' : compEnvC scope cl H2.objs.size env = compEnvC scope cl H2.objs.size env := rfl
  exact codeAny_compStart_list (loop _ start) (hself _ _ _ (old _ _ hI.1) (loop _ start))
theorem all_ : ∀ ι, Ty_ ι := Mine.hk ⟨Nat⟩ (P := Ty_) fun g0 mg mb A h₀ L m N env x px elt iter scope cl Q use P cpos fpos f xs J s => Mine.hk ne_ (P := Q_) main_ ((((g0, (mg, mb)), (A, (h₀, L))), ((m, (N, env)), (x, (px, elt)))), (((iter, (scope, cl)), (Q, (use, P))), ((cpos, (fpos, f)), (xs, (J, s)))))
end hcomp_core
section
variable {prog : Program} {w : World} {g0 : Cx} {mg mb : Loc} {A : Around} {E : Value → Shared → Prop} {h₀ : Heap} {L : Addr} {m : Loc} {N : Led} {env : Env}
theorem comp_core {ι : Type} {x : Str} {px : Pos} {elt iter : Expr} {scope : Scope} {cl : List (Str × Addr)} {Q : Value → Loc → Led → Prop} {use : Option (Value → Sem Unit)} {P : Value → Shared → Prop} {cpos fpos : Pos} (f : ι → Value → Prop) (xs : List ι) (J : List ι → List Value → Nat → Prop)
    (hclos : closureFor scope env = pure cl) (hkind : scope.kind = .function) (hnames : ∀ x ∈ scope.names, x.2 = .local → scope.names.lookup x.1 = some .local) (hcell : (scope.names.all fun y => y.2 != .cell) = true) (hx : scope.names.lookup x = some .local) (hfk : (x == floorKey) = false) (hz : xs.length ≤ 1000000)
    (hg : env.globals = mainGlobals) (G : Gd mg mb h₀)
    (h : WB g0 A (fun _ _ => False) h₀ L m N (eval iter env) fun v m1 N1 => WB g0 A (fun _ _ => False) h₀ L m1 N1 (pyIter v) fun it m2 N2 => ∃ I o N3 lo, it = .ref I ∧ N2 = (I, o) :: N3 ∧ Yield g0 A 0 I lo (xs.map f) o ∧ SelfIt g0 A I o ∧ (∀ p ∈ lo, At h₀ N3 p.1 p.2) ∧ J xs [] (flo m2) ∧
      (∀ i r ys T v h₀c C mC, J (i :: r) ys T → f i v → Gd mg mb h₀c → (∀ a ob, At h₀ N3 a ob → h₀c.get? a = some ob) → mC x = some v → flo mC = T → WB g0 A (fun _ _ => False) h₀c C mC [] (eval elt (compEnvC scope cl C env)) fun y mC' _ => J r (ys ++ [y]) (flo mC')) ∧
      (∀ D k ys T, J [] ys T → (∀ p ∈ N3, p.1 < D) → Q (.ref D) (setF m2 T) ((D, lstObj ys k) :: N3)))
    (hs : ∀ x, foldedSetIterable iter env x = pure x) (s : Shared) (I : Inv g0 h₀ L m N s)
    (hend : ∀ D m' N' C mC s6 fl, Q (.ref D) m' N' → Inv g0 h₀ L m' N' s6 → Step L N N' s.heap s6.heap → s6.heap.Ns C mC → C ≠ L → (∀ p ∈ N', p.1 ≠ C) → h₀.get? C = none → ¬ isTab C → s.heap.objs.size < C → compPost (model g0.prog g0.w) A (fun _ _ => False) use P (.ref D) C (.ok fl) s6) :
    wpAny (model g0.prog g0.w) A (comprehension (.ListComp elt [⟨.Name x px, iter, [], 0⟩] scope cpos) scope env fpos (newList []) false (eval iter env) use) P (fun _ _ => False) s := hcomp_core.all_ ι g0 mg mb A h₀ L m N env x px elt iter scope cl Q use P cpos fpos f xs J s hclos hkind hnames hcell hx hfk hz hg G h hs I hend
theorem off_done {N' : Led} {m' mC : Loc} {C : Addr} {h h7 : Heap} {s6 : Shared} (I6 : Inv g0 h₀ L m' N' s6) (S6 : Step L N N' h s6.heap) (ns : s6.heap.Ns C mC) (hCL : C ≠ L) (hCN : ∀ p ∈ N', p.1 ≠ C) (hC0 : h₀.get? C = none) (hC54 : ¬ isTab C) (hlt : h.objs.size < C)
    (sb7 : Heap.SameBut C s6.heap h7) : Inv g0 h₀ L m' N' { s6 with heap := h7 } ∧ Step L N N' h h7 := by
  refine exE3 ns fun oC es ep h_0 => anE3 h_0 fun e1 e2 _ => ?_
  clear h_0 ns
  refine ⟨I6.offC sb7 hCL hCN hC0 hC54 (fun o2 q hc => by
        rw [e1] at q; cases q
        refine exE3 hc fun vs _ _ h_0 => anE2 h_0 fun hd _ => ?_
        clear h_0 hc
        rw [e2] at hd; cases hd), ⟨fun b ob e hL hN hT => sb7.extBut b ob (fun q => ?_) (S6.keep b ob e hL hN hT), S6.fresh, Nat.le_trans S6.size (Nat.le_of_eq sb7.1.symm)⟩⟩
  have h8 := Heap.lt_size e
  rw [q] at h8
  exact Nat.lt_irrefl _ (Nat.lt_trans h8 hlt)
theorem e_comp {ι : Type} {x : Str} {px pos : Pos} {elt iter : Expr} {scope : Scope} {cl : List (Str × Addr)} {Q : Value → Loc → Led → Prop} (f : ι → Value → Prop) (xs : List ι) (J : List ι → List Value → Nat → Prop)
    (hclos : closureFor scope env = pure cl) (hkind : scope.kind = .function) (hnames : ∀ x ∈ scope.names, x.2 = .local → scope.names.lookup x.1 = some .local) (hcell : (scope.names.all fun y => y.2 != .cell) = true) (hx : scope.names.lookup x = some .local) (hfk : (x == floorKey) = false) (hz : xs.length ≤ 1000000)
    (hg : env.globals = mainGlobals) (G : Gd mg mb h₀)
    (h : WB g0 A (fun _ _ => False) h₀ L m N (eval iter env) fun v m1 N1 => WB g0 A (fun _ _ => False) h₀ L m1 N1 (pyIter v) fun it m2 N2 => ∃ I o N3 lo, it = .ref I ∧ N2 = (I, o) :: N3 ∧ Yield g0 A 0 I lo (xs.map f) o ∧ SelfIt g0 A I o ∧ (∀ p ∈ lo, At h₀ N3 p.1 p.2) ∧ J xs [] (flo m2) ∧
      (∀ i r ys T v h₀c C mC, J (i :: r) ys T → f i v → Gd mg mb h₀c → (∀ a ob, At h₀ N3 a ob → h₀c.get? a = some ob) → mC x = some v → flo mC = T → WB g0 A (fun _ _ => False) h₀c C mC [] (eval elt (compEnvC scope cl C env)) fun y mC' _ => J r (ys ++ [y]) (flo mC')) ∧
      (∀ D k ys T, J [] ys T → (∀ p ∈ N3, p.1 < D) → Q (.ref D) (setF m2 T) ((D, lstObj ys k) :: N3)))
    (hs : ∀ x, foldedSetIterable iter env x = pure x := by intro _; rfl) :
    WB g0 A E h₀ L m N (eval (.ListComp elt [⟨.Name x px, iter, [], 0⟩] scope pos) env) Q := by
  refine WB.exc ⟨fun s I => ?_⟩
  rw [eval_ListComp]
  refine comp_core (Q := Q) f xs J hclos hkind hnames hcell hx hfk hz hg G h hs s I fun D m' N' C mC s6 fl q I6 S6 ns hCL hCN hC0 hC54 hlt => ?_
  exact ⟨mC, ns, fun h7 sb7 => let y := off_done I6 S6 ns hCL hCN hC0 hC54 hlt sb7; ⟨m', N', y.1, y.2, q⟩⟩
end
end Mine

end

section
open PySem PySem.W PyProof.Rows
namespace Mine
open Builtin.Int (intBits)
section
variable {prog : Program} {w : World} {g0 : Cx} {mg mb : Loc} {A : Around} {E : Value → Shared → Prop} {h₀ : Heap} {L : Addr} {m : Loc} {N : Led} {env : Env}
theorem ex_assignComp {ι : Type} {y : Str} {py cpos : Pos} {cn : Str} {cs : Scope} {a0 : Addr} {ccd : Value} {cl0 : List (Str × Addr)} {rest : List Stmt} {x : Str} {px pos : Pos} {elt iter : Expr} {scope : Scope} {cl : List (Str × Addr)} {Q : Flow → Loc → Led → Prop} (he : env = envX cn cs L a0 ccd cl0) (hk : cs.kind = .function) (hy : cs.names.lookup y = some .local) (hyf : (y == floorKey) = false) (f : ι → Value → Prop) (xs : List ι) (J : List ι → List Value → Nat → Prop)
    (hclos : closureFor scope env = pure cl) (hkind : scope.kind = .function) (hnames : ∀ x ∈ scope.names, x.2 = .local → scope.names.lookup x.1 = some .local) (hcell : (scope.names.all fun y => y.2 != .cell) = true) (hx : scope.names.lookup x = some .local) (hfk : (x == floorKey) = false) (hz : xs.length ≤ 1000000)
    (hg : env.globals = mainGlobals) (G : Gd mg mb h₀)
    (h : WB g0 A (fun _ _ => False) h₀ L m N (eval iter env) fun v m1 N1 => WB g0 A (fun _ _ => False) h₀ L m1 N1 (pyIter v) fun it m2 N2 => ∃ I o N3 lo, it = .ref I ∧ N2 = (I, o) :: N3 ∧ Yield g0 A 0 I lo (xs.map f) o ∧ SelfIt g0 A I o ∧ (∀ p ∈ lo, At h₀ N3 p.1 p.2) ∧ J xs [] (flo m2) ∧
      (∀ i r ys T v h₀c C mC, J (i :: r) ys T → f i v → Gd mg mb h₀c → (∀ a ob, At h₀ N3 a ob → h₀c.get? a = some ob) → mC x = some v → flo mC = T → WB g0 A (fun _ _ => False) h₀c C mC [] (eval elt (compEnvC scope cl C env)) fun y mC' _ => J r (ys ++ [y]) (flo mC')) ∧
      (∀ D k ys T, J [] ys T → (∀ p ∈ N3, p.1 < D) → WB g0 A (fun _ _ => False) h₀ L (upd (setF m2 T) y (.ref D)) ((D, lstObj ys k) :: N3) (execs rest env) Q))
    (hs : ∀ x, foldedSetIterable iter env x = pure x := by intro _; rfl) (hsw : swapsWith (.ListComp elt [⟨.Name x px, iter, [], 0⟩] scope cpos) (some (.Name y py)) pos.line env = pure true := by rfl) :
    WB g0 A E h₀ L m N (execs (.Assign [.Name y py] (.ListComp elt [⟨.Name x px, iter, [], 0⟩] scope cpos) pos :: rest) env) Q := by
  refine WB.exc (ex_cons ?_)
  rw [exec_Assign_Name_used _ _ _ _ hsw]
  refine WB.at_ (WB.bind ?_)
  show WB _ _ _ _ _ _ _ (do let _ ← comprehension (.ListComp elt [⟨.Name x px, iter, [], 0⟩] scope cpos) scope env (firstIterPos [⟨.Name x px, iter, [], 0⟩] cpos) (newList []) false (eval iter env) (some (assign (.Name y py) env))) _
  refine WB.bind (WB.mono (Q := fun v m' N' => WB g0 A (fun _ _ => False) h₀ L m' N' (execs rest env) Q) ⟨fun s I => ?_⟩ fun v m' N' q => WB.pure (WB.pure q))
  refine comp_core (use := some (assign (.Name y py) env)) (Q := fun v m' N' => WB g0 A (fun _ _ => False) h₀ L (upd m' y v) N' (execs rest env) Q) f xs J hclos hkind hnames hcell hx hfk hz hg G h hs s I fun D m' N' C mC s6 fl q I6 S6 ns hCL hCN hC0 hC54 hlt => ?_
  show wpAny _ _ (assign (.Name y py) env (.ref D)) _ _ _
  refine wpAny_assign_Name ?_
  have WL : WB g0 A (fun _ _ => False) h₀ L m' N' (storeName env y (.ref D)) fun _ m'' N'' => m'' = upd m' y (.ref D) ∧ N'' = N' := by
    rw [he]; exact WB.local hk hy ⟨rfl, rfl⟩ hyf
  refine wpAny_mono (WL.run _ I6) (fun _ s7 ⟨m7, N7, I7, S7, e1, e2⟩ => ?_) fun _ _ e => e.elim
  subst e1 e2
  have nsC : s7.heap.Ns C mC := by
    refine exE3 ns fun o2 es2 ep2 h_0 => anE2 h_0 fun q1 q2 => ?_
    clear h_0 ns
    exact ⟨o2, es2, ep2, S7.keep _ _ q1 hCL (fun hm => by
      refine exE1 (List.mem_map.mp hm) fun p h_0 => anE2 h_0 fun hp e => ?_
      clear h_0
      exact absurd e (hCN p hp)) hC54, q2⟩
  refine ⟨mC, nsC, fun h7 sb7 => ?_⟩
  have y := off_done I7 (S6.trans S7) nsC hCL hCN hC0 hC54 hlt sb7
  exact ⟨_, _, y.1, y.2, q⟩
end
end Mine

end

section
open PySem PySem.W PyProof.Rows
namespace Mine
open Builtin.Int (intBits)
section
variable {prog : Program} {w : World} {g0 : Cx} {mg mb : Loc} {A : Around} {E : Value → Shared → Prop} {h₀ : Heap} {L : Addr} {m : Loc} {N : Led} {env : Env}
theorem n_local {x : Str} {pos : Pos} {v : Value} {Q : Value → Loc → Led → Prop} (hl : env.locals = L) (hk : env.scope.kind = .function) (hx : env.kindOf x = some .local) (hv : m x = some v) (h : Q v m N)
    (hd : (x == ("__debug__" : Str)) = false := by decide) (hfk : (x == floorKey) = false := by decide) : WB g0 A E h₀ L m N (eval (.Name x pos) env) Q :=
  ⟨fun s I => wpAny_Name (wpAny_loadName_local hk hx (by rw [hl]; exact I.fr.ns) (strip_at hv hfk) ⟨m, N, I, .refl .., h⟩) hd⟩
theorem n_glob {x : Str} {pos : Pos} {v : Value} {Q : Value → Loc → Led → Prop} (G : Gd mg mb h₀) (hg : env.globals = mainGlobals) (hk : env.scope.kind = .function) (hx : env.kindOf x = some .globalImplicit) (hv : mg x = some v) (h : Q v m N)
    (hd : (x == ("__debug__" : Str)) = false := by decide) : WB g0 A E h₀ L m N (eval (.Name x pos) env) Q :=
  ⟨fun s I => Calls.Name_function_global hk hx (Calls.loadGlobal_global (env := env) (by rw [hg]; exact G.g.keeps I.fr.keep) hv ⟨m, N, I, .refl .., h⟩) hd⟩
theorem n_callf {x : String} {f i : Nat} {p pos : Pos} {es : List Expr} {Q : Value → Loc → Led → Prop} (G : Gd mg mb h₀) (hg : env.globals = mainGlobals) (hk : env.scope.kind = .function) (hx : env.kindOf (Str.ofString x) = some .globalImplicit) (hf : (x, f, i) ∈ fnTable) (hp : es.all plainArg = true)
    (h : argsWB g0 A E h₀ L env es (fun vs m' N' => WB g0 A E h₀ L m' N' (call (.ref (f + 1)) vs) Q) m N)
    (hd : ((Str.ofString x) == ("__debug__" : Str)) = false := by decide) : WB g0 A E h₀ L m N (eval (.Call (.Name (Str.ofString x) p) es [] pos) env) Q := by
  refine via fun ξ κ=>?_
  obtain ⟨e, pm, ho, _⟩ := G.fn _ hf
  refine κ ?_;clear κ ξ
  refine e_call_name (n_glob G hg hk hx e ?_ hd)
  refine call_f (fo := fnObj x i pm f) hp rfl ?_
  exact args_mono h fun vs m' N' q => ⟨.inl ho, q⟩
theorem n_free {x : Str} {pos : Pos} {c : Addr} {o : Obj} {v : Value} {Q : Value → Loc → Led → Prop} (hk : env.scope.kind = .function) (hx : env.kindOf x = some .free ∨ env.kindOf x = some .cell) (hc : env.cells.lookup x = some c) (hm : At h₀ N c o) (hd : o.data = .cell (some v)) (h : Q v m N)
    (hb : (x == ("__debug__" : Str)) = false := by decide) (hn : (x == ("__classdict__" : Str)) = false := by decide) : WB g0 A E h₀ L m N (eval (.Name x pos) env) Q :=
  ⟨fun s I => by
    rcases hx with hx | hx
    · exact wpAny_Name (wpAny_loadName_free hk hx hc ⟨o, I.at hm, hd⟩ ⟨m, N, I, .refl .., h⟩ hn) hb
    · exact wpAny_Name (wpAny_loadName_cell hk hx hc ⟨o, I.at hm, hd⟩ ⟨m, N, I, .refl .., h⟩) hb⟩
theorem selfIt_list {l : Addr} {I : Addr} : SelfIt g0 A I { cls := .type "list_iterator", data := .fields #[.ref l, .int 0 0] } :=
  fun s Q E e h => wpAny_pyIter_listiter (l := l) (i := 0) ⟨_, e, rfl, rfl⟩ h
theorem it_listS {l : Addr} {lo : Obj} {vs : List Value} {Q : Value → Loc → Led → Prop} (hh : A.handled = none) (hl : At h₀ N l lo) (ho : LO lo vs)
    (h : ∀ I o, Fresh h₀ L N I → Yield g0 A 0 I [(l, lo)] (vs.map isV) o → SelfIt g0 A I o → Q (.ref I) m ((I, o) :: N)) : WB g0 A E h₀ L m N (pyIter (.ref l)) Q := by
  refine WB.alloc (o := { cls := .type "list_iterator", data := .fields #[.ref l, .int 0 0] }) rfl (fun s Q' E' at_ q => wpAny_pyIter_list (ho.isList (at_ _ _ hl)) (q s.toks)) fun I hI => h I _ hI ?_ selfIt_list
  have hne : l ≠ I := by
    rcases hl with hl | hl
    · exact Nat.ne_of_lt (Nat.lt_of_lt_of_le (Heap.lt_size hl) hI.ge)
    · exact Nat.ne_of_lt (hI.gt _ hl)
  refine Yield.mono (Yield.of (n := vs.toArray.size) (is := fun o => o.cls = .type "list_iterator" ∧ ∃ i : Int, o.data = .fields #[.ref l, .int i 0]) (Walks.list hh I l hne vs.toArray) (fun i h x => ?_) (fun o x => ?_) (fun b hb => ?_) vs.toArray.size 0 _ (by omega) ⟨rfl, 0, rfl⟩ fun h2 e2 el => ⟨⟨_, e2, rfl, rfl⟩, ho.isList (el (l, lo) (.head _))⟩) (by simp) fun i P P' e1 e2 v hv => ?_
  · obtain ⟨⟨o, e, c, d⟩, _⟩ := x; exact ⟨o, e, c, _, d⟩
  · refine via fun ξ κ=>?_
    obtain ⟨_, i, d⟩ := x
    refine κ ?_;clear κ ξ
    refine notCode_cls fun vs q t e => ?_
    rw [d] at e; cases e; simp
  · rcases List.mem_cons.mp hb with rfl | hb
    · exact .inl rfl
    · rw [List.mem_singleton.mp hb]; exact .inr ⟨lo, .head _⟩
  · refine anE2 (mapP_get e1) fun hi e_1 => ?_
    subst e_1
    rw [List.getElem?_map] at e2
    have hv' : vs[i]? = some v := by simpa using hv
    rw [hv'] at e2
    simp at e2; rw [← e2]; rfl
noncomputable def SlcP (h₀ : Heap) (L : Addr) (o vl vu vs : Value) (N : Led) (K : Value → Led → Prop) : Prop := ∃ l lob its lo hi st, o = .ref l ∧ At h₀ N l lob ∧ LO lob its ∧ its.length ≤ 1000000 ∧ IsPart vl lo ∧ IsPart vu hi ∧ IsPart vs st ∧ st ≠ some 0 ∧ ∀ sl a so, Fresh h₀ L ((sl, so) :: N) a → K (.ref a) ((a, lstObj (slicePick its.toArray lo hi st).toList) :: (sl, so) :: N)
theorem slcI (l : Addr) (lob : Obj) (its : List Value) (lo hi st : Option Int) {h₀ : Heap} {L : Addr} {vl vu vs : Value} {N : Led} {K : Value → Led → Prop} (a : At h₀ N l lob) (b : LO lob its) (c : its.length ≤ 1000000) (d : IsPart vl lo) (e : IsPart vu hi) (f : IsPart vs st) (g : st ≠ some 0) (q : ∀ sl a so, Fresh h₀ L ((sl, so) :: N) a → K (.ref a) ((a, lstObj (slicePick its.toArray lo hi st).toList) :: (sl, so) :: N)) : SlcP h₀ L (.ref l) vl vu vs N K := ⟨l, lob, its, lo, hi, st, rfl, a, b, c, d, e, f, g, q⟩
theorem e_slice {lower upper step : Option Expr} {value : Expr} {p pos : Pos} {Q : Value → Loc → Led → Prop}
    (h : WB g0 A E h₀ L m N (eval value env) fun o m1 N1 => WB g0 A E h₀ L m1 N1 (evalPart lower env) fun vl m2 N2 => WB g0 A E h₀ L m2 N2 (evalPart upper env) fun vu m3 N3 => WB g0 A E h₀ L m3 N3 (evalPart step env) fun vs m4 N4 =>
      SlcP h₀ L o vl vu vs N4 fun a N' => Q a m4 N')
    (hs : ∀ o i, subscripted (.Slice lower upper step p) false o i = operate [o, i] (getItem o i) ∨ subscripted (.Slice lower upper step p) false o i = operate [i, o] (getItem o i)) :
    WB g0 A E h₀ L m N (eval (.Subscript value (.Slice lower upper step p) pos) env) Q := by
  rw [eval_Subscript]
  refine WB.bind (h.mono fun o m1 N1 q => WB.bind (WB.holding ?_))
  rw [arm_eval_Slice]
  refine WB.bind (q.mono fun vl m2 N2 q => WB.bind (WB.holding (q.mono fun vu m3 N3 q => WB.bind (WB.holding (q.mono fun vs m4 N4 q => ?_)))))
  refine via fun ξ κ=>?_
  obtain ⟨l, lob, its, lo, hi, st, e_2, hat, hLO, hz, p1, p2, p3, h0, q⟩ := q
  refine κ ?_;clear κ ξ
  subst e_2
  refine WB.alloc (o := { cls := .type "slice", data := .fields #[vl, vu, vs] }) rfl (fun s Q' E' at_ r => wpAny_newObj_type (r s.toks) (by size_fits)) fun sl fsl => ?_
  refine WB.at_ ?_
  have hat' : At h₀ ((sl, { cls := .type "slice", data := .fields #[vl, vu, vs] }) :: N4) l lob := hat.imp id (.tail _)
  have tail : WB g0 A E h₀ L m4 ((sl, { cls := .type "slice", data := .fields #[vl, vu, vs] }) :: N4) (do let r ← subscripted (.Slice lower upper step p) false (.ref l) (.ref sl); letTemporaryGo value (.ref l) r; pure r) Q := by
    refine WB.bind (WB.mono (Q := fun r m' N' => ∃ a, r = .ref a ∧ m' = m4 ∧ N' = (a, lstObj (slicePick its.toArray lo hi st).toList) :: (sl, { cls := .type "slice", data := .fields #[vl, vu, vs] }) :: N4 ∧ Fresh h₀ L ((sl, { cls := .type "slice", data := .fields #[vl, vu, vs] }) :: N4) a) ?_ ?_)
    · have core : WB g0 A E h₀ L m4 ((sl, { cls := .type "slice", data := .fields #[vl, vu, vs] }) :: N4) (getItem (.ref l) (.ref sl)) (fun r m' N' => ∃ a, r = .ref a ∧ m' = m4 ∧ N' = (a, lstObj (slicePick its.toArray lo hi st).toList) :: (sl, { cls := .type "slice", data := .fields #[vl, vu, vs] }) :: N4 ∧ Fresh h₀ L ((sl, { cls := .type "slice", data := .fields #[vl, vu, vs] }) :: N4) a) := by
        refine WB.alloc (o := lstObj (slicePick its.toArray lo hi st).toList) rfl (fun s Q' E' at_ r => ?_) fun a fa => ⟨a, rfl, rfl, rfl, fa⟩
        refine wpAny_getItem_list_slice (hLO.isList (at_ _ _ hat')) ⟨_, at_ _ _ (.inr (.head _)), rfl, rfl⟩ p1 p2 p3 h0 ?_ (by simp; rw [sizeLine_eq]; omega)
        have := r s.toks
        simpa [lstObj] using this
      rcases hs (.ref l) (.ref sl) with e | e
      · rw [e]; exact WB.operate core
      · rw [e]; exact WB.operate core
    · intro r m' N' e_3
      refine via fun ξ κ=>?_
      obtain ⟨a, e_4, e_5, e_6, fa⟩ := e_3
      refine κ ?_;clear κ ξ
      subst e_4
      subst e_5
      subst e_6
      exact ⟨fun s I => wpAny_bind (wpAny_letTemporaryGo (wpAny_pure ⟨_, _, I, .refl .., q sl a _ fa⟩))⟩
  refine ⟨fun s I => ?_⟩
  have hi := hLO.isList (I.at hat')
  refine wpAny_bind ?_
  refine (Eq.symm (getitemInPython_of_ne hi.typeIs.not_modules)) ▸ ?_
  refine wpAny_bind (wpAny_specialOf hi.typeIs slot_list_getitem.lookup ?_)
  first
    | exact wpAny_pure (tail.run s I)
    | exact wpAny_bind (wpAny_pure (tail.run s I))
    | exact tail.run s I
theorem slicePick_mem {items : Array Value} {lo hi st : Option Int} : ∀ v ∈ (slicePick items lo hi st).toList, v ∈ items.toList := fun v hv => by
  unfold slicePick at hv
  simp only [List.toList_toArray] at hv
  refine exE1 (List.mem_filterMap.mp hv) fun i h_0 => anE2 h_0 fun _ e => ?_
  clear h_0
  rw [← Array.getElem?_toList] at e
  exact List.mem_of_getElem? e
theorem ints_are {vs : List Value} {xs : List Int} (h : Ints vs xs) : IntsAre vs xs := by
  induction xs generalizing vs with
  | nil => have := h.length; have : vs = [] := by simpa using this
           subst this; exact .nil
  | cons x xs ih => obtain ⟨t, vs', rfl, h'⟩ := h.uncons; exact .cons _ _ (ih h')
theorem ints_sub {vs ws : List Value} {xs : List Int} (h : Ints vs xs) (hw : ∀ v ∈ ws, v ∈ vs) : ∃ ys, Ints ws ys := by
  induction ws with
  | nil => exact ⟨[], Ints.nil⟩
  | cons v ws ih =>
    refine exE1 (ih fun u hu => hw u (.tail _ hu)) fun ys hy => ?_
    refine exE1 (List.getElem?_of_mem (hw v (.head _))) fun i hi => ?_
    have h1 := congrArg (fun l => l[i]?) h
    simp only [List.getElem?_map, hi, Option.map_some] at h1
    cases hx : xs[i]? with
    | none => rw [hx] at h1; simp at h1
    | some x =>
      rw [hx] at h1
      simp only [Option.map_some, Option.some.injEq] at h1
      cases v <;> simp [intOf] at h1
      exact ⟨_, hy.cons⟩
theorem c_sum {l : Addr} {lo : Obj} {vs : List Value} {xs : List Int} {Q : Value → Loc → Led → Prop} (hh : A.handled = none) (hl : At h₀ N l lo) (ho : LO lo vs) (hI : Ints vs xs) (h : ∀ t, Q (.int xs.sum t) m N) : WB g0 A E h₀ L m N (call (.builtin "sum") [.ref l]) Q := by
  refine WB.wildK (R := fun v => ∃ t, v = .int xs.sum t) (fun s Q' E' at_ q => ?_) (fun a ⟨t, e⟩ => e ▸ h t)
  have hi := ints_are hI
  refine exE1 hi.allInts.items fun ys hx => ?_
  have hl' : s.heap.IsList l (intItems ys) := hx ▸ ho.isList (at_ _ _ hl)
  refine sum_intListG hh hl' fun h' tk t' hk => ?_
  have e1 : xs = ys.toList.map (·.1) := by
    rw [← nums_intItems, ← hx]
    exact (show numsOf vs.toArray.toList = xs from hi.numsOf).symm
  have e2 : preSum (numAt ys) ys.size = xs.sum := by
    rw [preSum_eq, List.take_of_length_le (by simp), e1]
  refine (Eq.symm e2) ▸ ?_
  exact q _ h' tk ⟨t', rfl⟩ hk
end
end Mine

end

section
open PySem PySem.W PyProof.Rows
namespace Mine
theorem list3 : ∀ {l : List Int}, l.length = 3 → ∃ a b c, l = [a, b, c]
  | [a, b, c], _ => ⟨a, b, c, rfl⟩
theorem list4 : ∀ {l : List Int}, l.length = 4 → ∃ a b c d, l = [a, b, c, d]
  | [a, b, c, d], _ => ⟨a, b, c, d, rfl⟩
open Builtin.Int (intBits)
noncomputable def DotsOk (n : Nat) (ds : List Int) : Prop := ds.length = n ∧ (n ≠ 4 → ∀ d ∈ ds, 1 ≤ d ∧ d ≤ 6) ∧ (n = 4 → ∃ a b c, ds = [a, b, c, a + b + c - 2] ∧ (a = 2 ∨ a = 3) ∧ (b = 2 ∨ b = 3) ∧ (c = 2 ∨ c = 3))
theorem six_get (u1 u2 u3 u4 u5 u6 : Tok) : ∀ {i : Nat}, i < 6 → ∃ (c : Int) (tc : Tok), ([Value.int 1 u1, .int 0 u2, .int 2 u3, .int 0 u4, .int 1 u5, .int 3 u6] : List Value)[i]? = some (.int c tc)
  | 0, _ => ⟨_, _, rfl⟩
  | 1, _ => ⟨_, _, rfl⟩
  | 2, _ => ⟨_, _, rfl⟩
  | 3, _ => ⟨_, _, rfl⟩
  | 4, _ => ⟨_, _, rfl⟩
  | 5, _ => ⟨_, _, rfl⟩
  | i + 6, h => by omega
section
variable {prog : Program} {w : World} {g0 : Cx} {mg mb : Loc} {A : Around} {E : Value → Shared → Prop} {s : Shared}
end
namespace hf_dots_b
noncomputable def st_ (g0 : Mine.Cx) (mg mb : Mine.Loc) (A : PySem.Around) (s : PySem.Shared) (sl : PySem.Addr) (so : PySem.Obj) (svs : List PySem.Value) (ss : List Int) (t : PySem.Tok) (L : PySem.Addr) : Prop := ∀ {n : Nat} (O : OkAt mg mb g0 s) (Ro : Room A 5) (hsl : s.heap.get? sl = some so) (hso : LO so svs) (hS : Ints svs ss) (hsn : svs.length ≤ 1000) (hn : 3 ≤ n) (hn6 : n ≤ 6), EntB g0 mg mb "_law_dots" 162 26 (4) [(Str.ofString "script", .ref sl), (Str.ofString "size", .int n t)] (fun v new => ∃ r ro ws ds, v = .ref r ∧ (r, ro) ∈ new ∧ LX ro ws ∧ Ints ws ds ∧ DotsOk n ds) A s L
noncomputable abbrev T_ := (((Mine.Cx × Mine.Loc) × (Mine.Loc × (PySem.Around × PySem.Shared))) × ((PySem.Addr × (PySem.Obj × (List PySem.Value))) × ((List Int) × (PySem.Tok × PySem.Addr))))
theorem ne_ : Nonempty T_ := ⟨by repeat' (first | apply Prod.mk | exact default | exact nAr | exact nCx | exact nSh | constructor)⟩
noncomputable def Q_ (p : T_) : Prop := st_ p.1.1.1 p.1.1.2 p.1.2.1 p.1.2.2.1 p.1.2.2.2 p.2.1.1 p.2.1.2.1 p.2.1.2.2 p.2.2.1 p.2.2.2.1 p.2.2.2.2
noncomputable def w_ : T_ := @Classical.epsilon _ ne_ fun p => ¬ Q_ p
noncomputable def sl := w_.2.1.1
noncomputable def so := w_.2.1.2.1
noncomputable def svs := w_.2.1.2.2
noncomputable def t := w_.2.2.2.1
set_option maxHeartbeats 1000000 in
theorem main_ : st_ w_.1.1.1 w_.1.1.2 w_.1.2.1 w_.1.2.2.1 w_.1.2.2.2 sl so svs w_.2.2.1 t w_.2.2.2.2 := by
  intro n O Ro hsl hso hS hsn hn hn6
  intro hL G Rd
  have hsl0 := hideT_get hsl (O.notTab hsl hso.cls)
  refine WB.cm entry2 ?_
  show WB _ _ _ _ _ _ _ (execs (_ :: _ :: _ :: _ :: []) _) _
  refine ex_assignL ks__law_dots k__law_dots_dots ?_
  refine e_list rfl ?_
  refine args_nil ⟨by simp, fun ql fql => ?_⟩
  refine ex_forN 0 n (fun i m N => m (Str.ofString "script") = some (.ref sl) ∧ m (Str.ofString "size") = some (.int n t) ∧ m (Str.ofString "dots") = some (.ref ql) ∧ ∃ qo ws ds, (ql, qo) ∈ N ∧ LX qo ws ∧ Ints ws ds ∧ ds.length = i ∧ ∀ d ∈ ds, 1 ≤ d ∧ d ≤ 6) Rd.handled ks__law_dots k__law_dots_k (by decide) (by omega) ?_ ?_ ?_
  · refine e_callt G ks__law_dots k__law_dots_range (id := "range") (by decide) rfl ?_
    repeat tb_rel
    refine c_range1 fun r t1 u1 v1 _ => rngI r _ t1 u1 v1 (.inr (.head _)) (by omega) (by omega) ⟨by kwd_inv, by kwd_inv, by kwd_inv, exI3 _ _ ([]) ⟨.tail _ (.head _), ⟨0, rfl⟩, Ints.nil, rfl, fun d hd => nomatch hd⟩⟩
  · intro i m N tk hi e_1
    refine anE4 e_1 fun h1 h2 h3 h_0 => exE3 h_0 fun qo ws ds h_1 => anE5 h_1 fun hq hqo hI hdl hd => ?_
    clear h_0 h_1 e_1
    have hwl := hI.length
    refine ex_expr ?_
    refine e_meth attrBase_name rfl rfl ?_
    refine e_local ks__law_dots k__law_dots_dots (v := .ref ql) (by kwd_inv) ?_
    intro pl
    refine g_lst slot_list_append type_list_append (.inr hq) hqo ?_
    refine call_b1 rfl ?_
    refine args_cons ?_
    refine e_bin (e_bin (e_bin (e_subL ?_)))
    refine e_list rfl ?_
    refine args_cons (e_int fun u1 => args_cons (e_int fun u2 => args_cons (e_int fun u3 => args_cons (e_int fun u4 => args_cons (e_int fun u5 => args_cons (e_int fun u6 => args_nil ?_))))))
    refine ⟨by simp, fun cl fcl => ?_⟩
    refine e_local ks__law_dots k__law_dots_k (by kwd_inv) ?_
    refine exE2 (six_get u1 u2 u3 u4 u5 u6 (i := i) (by omega)) fun c tc hc => ?_
    rw [show i = (0 + (i : Int)).toNat by omega] at hc
    refine subI cl _ _ _ tk _ (.inr (.head _)) ((LP.of _ 0).lo) (by omega) (by omega) hc ?_
    refine e_callb G ks__law_dots k__law_dots_sum (id := "sum") (by decide) rfl ?_
    refine args_cons ?_
    refine e_slice ?_ (fun _ _ => .inl rfl)
    refine e_local ks__law_dots k__law_dots_script (v := .ref sl) (by kwd_inv) ?_
    simp only [evalPart_some, evalPart_none]
    refine e_local ks__law_dots k__law_dots_k (by kwd_inv) ?_
    refine WB.pure ?_
    refine e_int fun t6 => ?_
    refine slcI sl so svs _ _ _ (.inl hsl0) hso (by omega) (.int _ _) .none (.int _ _) (by simp) (fun sx a sox fa => ?_)
    refine args_nil ?_
    refine exE1 (ints_sub hS (ws := (slicePick svs.toArray (some (0 + (i : Int))) none (some 6)).toList) fun v hv => by simpa using slicePick_mem v hv) fun ys hys => ?_
    refine c_sum Rd.handled (.inr (.head _)) (LP.of _ 0).lo hys fun ts => ?_
    refine i_add fun _ => ?_
    refine e_int fun _ => ?_
    refine i_mod (by decide) fun _ => ?_
    refine e_int fun _ => ?_
    refine i_add fun tr => ?_
    refine args_nil ?_
    rw [fmod_pos (by decide)]
    have m0 := Int.emod_nonneg (c + ys.sum) (show (6 : Int) ≠ 0 by decide)
    have m1 := Int.emod_lt_of_pos (c + ys.sum) (show (0 : Int) < 6 by decide)
    refine c_append (List.mem_cons_of_mem _ (List.mem_cons_of_mem _ (List.mem_cons_of_mem _ hq))) hqo (by omega) fun qo' N' hLX hH hm' => ?_
    refine ex_nil ⟨by kwd_inv, by kwd_inv, by kwd_inv, exI3 qo' _ (ds ++ [(c + ys.sum) % 6 + 1]) ⟨hm', hLX, hI.append Ints.nil.cons, by rw [List.length_append, hdl]; rfl, fun d hd' => ?_⟩⟩
    rcases List.mem_append.mp hd' with h | h
    · exact hd d h
    · rw [List.mem_singleton.mp h]; omega
  · intro m N e_2
    refine anE4 e_2 fun h1 h2 h3 h_0 => exE3 h_0 fun qo ws ds h_1 => anE5 h_1 fun hq hqo hI hdl hd => ?_
    clear h_0 h_1 e_2
    have hwl := hI.length
    refine ex_if ?_
    repeat tb_rel
    by_cases h4 : n = 4
    · have e4 : ((n : Int) == 4) = true := by simp; omega
      refine if_t1 (e4) ?_
      show WB _ _ _ _ _ _ _ (execs (_ :: _ :: _ :: []) _) _
      subst h4
      refine via fun ξ κ=>?_
      obtain ⟨d0, d1, d2, d3, e_3⟩ := list4 hdl
      refine κ ?_;clear κ ξ
      subst e_3
      refine exE2 hI.uncons fun t0 w0 h_0 => anE2 h_0 fun e_4 hI1 => ?_
      clear h_0
      subst e_4
      refine exE2 hI1.uncons fun t1 w1 h_0 => anE2 h_0 fun e_5 hI2 => ?_
      clear h_0
      subst e_5
      refine exE2 hI2.uncons fun t2 w2 h_0 => anE2 h_0 fun e_6 hI3 => ?_
      clear h_0
      subst e_6
      refine ex_assignComp (cl := []) rfl ks__law_dots k__law_dots_dots (by decide) (fun (x : Int) v => ∃ t, v = .int x t) [d0, d1, d2] (fun r ys _ => ∃ cs, Ints ys cs ∧ cs.length + r.length = 3 ∧ ∀ c ∈ cs, c = 2 ∨ c = 3) (by rfl) (by rfl) (by decide) (by rfl) (by rfl) (by decide) (by simp) rfl G ?_
      have hwl4 : w2.length = 1 := by rw [hI3.length]; rfl
      refine e_slice ?_ (fun _ _ => .inr rfl)
      refine e_local ks__law_dots k__law_dots_dots h3 ?_
      simp only [evalPart_some, evalPart_none]
      refine WB.pure ?_
      refine e_int fun tz => ?_
      refine WB.pure ?_
      refine slcI ql qo _ _ _ _ (.inr hq) hqo.lo (by simp; omega) .none (.int _ _) .none (by simp) (fun sx a sox fa => ?_)
      have esl : (slicePick (Value.int d0 t0 :: Value.int d1 t1 :: Value.int d2 t2 :: w2).toArray none (some 3) none).toList = [.int d0 t0, .int d1 t1, .int d2 t2] := by
        have := slicePick_upto (Value.int d0 t0 :: Value.int d1 t1 :: Value.int d2 t2 :: w2).toArray 3 (by simp)
        rw [show (some 3 : Option Int) = some ((3 : Nat) : Int) from rfl, this]; simp
      refine (Eq.symm esl) ▸ ?_
      refine it_listS Rd.handled (.inr (.head _)) (LP.of _ 0).lo fun I o fI hY hself => ?_
      refine ⟨I, o, _, [(a, lstObj [.int d0 t0, .int d1 t1, .int d2 t2])], rfl, rfl, ?_, hself, fun p hp => by rw [List.mem_singleton.mp hp]; exact .inr (.head _), ⟨[], Ints.nil, rfl, fun c hc => nomatch hc⟩, ?_, ?_⟩
      · refine hY.mono (by simp) fun i P P' e1 e2 v hv => ?_
        match i with
        | 0 => simp at e1 e2; subst e1 e2; exact ⟨_, hv⟩
        | 1 => simp at e1 e2; subst e1 e2; exact ⟨_, hv⟩
        | 2 => simp at e1 e2; subst e1 e2; exact ⟨_, hv⟩
        | i + 3 => simp at e1
      · intro x r ys T v h₀c C mC e_7 e_8 Gc atc hmx hfl
        refine exE1 e_7 fun cs h_0 => anE3 h_0 fun hIc hcl hcs => exE1 e_8 fun tv e_9 => ?_
        clear h_0 e_7 e_8
        subst e_9
        refine e_bin (e_bin (n_local rfl (by rfl) (by rfl) hmx ?_))
        refine e_int fun _ => ?_
        refine i_mod (by decide) fun _ => ?_
        refine e_int fun _ => ?_
        refine i_add fun tr => ?_
        rw [fmod_pos (by decide)]
        have m0 := Int.emod_nonneg x (show (2 : Int) ≠ 0 by decide)
        have m1 := Int.emod_lt_of_pos x (show (0 : Int) < 2 by decide)
        refine ⟨cs ++ [x % 2 + 2], hIc.append Ints.nil.cons, by rw [List.length_append, List.length_singleton]; rw [List.length_cons] at hcl; omega, fun c hc => ?_⟩
        rcases List.mem_append.mp hc with h | h
        · exact hcs c h
        · rw [List.mem_singleton.mp h]; omega
      · intro D k ys T e_10 hD
        refine exE1 e_10 fun cs h_0 => anE3 h_0 fun hIc hcl hcs => ?_
        clear h_0 e_10
        refine via fun ξ κ=>?_
        obtain ⟨a0, a1, a2, e_11⟩ := list3 hcl
        refine κ ?_;clear κ ξ
        subst e_11
        have hyl : ys.length = 3 := hIc.length
        refine ex_expr ?_
        refine e_meth attrBase_name rfl rfl ?_
        refine e_local ks__law_dots k__law_dots_dots (v := .ref D) (by kwd_inv) ?_
        intro pl
        refine g_lst slot_list_append type_list_append (.inr (.head _)) ⟨k, rfl⟩ ?_
        refine call_b1 rfl ?_
        refine args_cons ?_
        refine e_bin ?_
        refine e_callb G ks__law_dots k__law_dots_sum (id := "sum") (by decide) rfl ?_
        refine args_cons (e_local ks__law_dots k__law_dots_dots (v := .ref D) (by kwd_inv) ?_)
        refine args_nil ?_
        refine c_sum Rd.handled (.inr (.head _)) (LP.of _ k).lo hIc fun ts => ?_
        refine e_int fun _ => ?_
        refine i_sub fun tr => ?_
        refine args_nil ?_
        refine c_append (.head _) ⟨k, rfl⟩ (by omega) fun qo' N' hLX hH hm' => ?_
        refine ex_ret ?_
        refine e_local ks__law_dots k__law_dots_dots (v := .ref D) (by kwd_inv) ?_
        refine ⟨D, qo', _, [a0, a1, a2, a0 + a1 + a2 - 2], rfl, hm', hLX, ?_, rfl, fun h => absurd rfl h, fun _ => ⟨a0, a1, a2, rfl, hcs _ (.head _), hcs _ (.tail _ (.head _)), hcs _ (.tail _ (.tail _ (.head _)))⟩⟩
        have := hIc.append (Ints.nil.cons (i := [a0, a1, a2].sum - 2) (t := tr))
        have es : [a0, a1, a2].sum - 2 = a0 + a1 + a2 - 2 := by simp [List.sum_cons]; omega
        rw [es] at this ⊢
        exact this
    · have e4 : ((n : Int) == 4) = false := by simp; omega
      refine if_f1 (e4) ?_
      show WB _ _ _ _ _ _ _ (execs (_ :: []) _) _
      refine ex_ret ?_
      refine e_local ks__law_dots k__law_dots_dots h3 ?_
      exact exI4 ql qo ws ds ⟨rfl, hq, hqo, hI, hdl, fun _ => hd, fun h => absurd h h4⟩
end hf_dots_b
theorem f_dots_b {g0 mg mb A s sl so svs ss t L} : hf_dots_b.st_ g0 mg mb A s sl so svs ss t L := Mine.hk hf_dots_b.ne_ (P := hf_dots_b.Q_) hf_dots_b.main_ (((g0, mg), (mb, (A, s))), ((sl, (so, svs)), (ss, (t, L))))
section
variable {prog : Program} {w : World} {g0 : Cx} {mg mb : Loc} {A : Around} {E : Value → Shared → Prop} {s : Shared}
set_option maxHeartbeats 1000000 in
theorem f_dots {sl : Addr} {so : Obj} {svs : List Value} {ss : List Int} {n : Nat} {t : Tok} (O : OkAt mg mb g0 s) (Ro : Room A 5) (hsl : s.heap.get? sl = some so) (hso : LO so svs) (hS : Ints svs ss) (hsn : svs.length ≤ 1000) (hn : 3 ≤ n) (hn6 : n ≤ 6) : wpAny (model g0.prog g0.w) A (call (.ref 163) [.ref sl, .int n t]) (Back g0 s.heap fun v new => ∃ r ro ws ds, v = .ref r ∧ (r, ro) ∈ new ∧ LX ro ws ∧ Ints ws ds ∧ DotsOk n ds) E s := by
  refine enter (name := "_law_dots") (f := 162) (i := 26) (n := 4) (binds := [(Str.ofString "script", .ref sl), (Str.ofString "size", .int n t)]) (by decide) O Ro (fun pm => by rfl) ?_ (by rfl) (by rfl) (by rfl) (by rfl) ?_
  · intro x hx
    simp only [List.mem_cons, List.not_mem_nil, or_false] at hx
    rcases hx with rfl | rfl
    · exact k__law_dots_script
    · exact k__law_dots_size
  intro L
  exact f_dots_b O Ro hsl hso hS hsn hn hn6
end
end Mine

end

section
open PySem PySem.W PyProof.Rows
namespace Mine
open PySem.Builtin PySem.Builtin.Re
theorem run_done {m : Sre.M} (h : m.outcome.isSome = true) : ∀ k, m.runFor k = m
  | 0 => rfl
  | k + 1 => by rw [Sre.M.runFor, if_pos h]
theorem run_add (b : Nat) : ∀ (a : Nat) (m : Sre.M), m.runFor (a + b) = (m.runFor a).runFor b
  | 0, m => by rw [Nat.zero_add]; rfl
  | a + 1, m => by
    rw [show a + 1 + b = (a + b) + 1 by omega, Sre.M.runFor, Sre.M.runFor]
    split
    · rename_i h; rw [run_done h]
    · exact run_add b a _
section
variable {M : Model} {A : Around} {E : Value → Shared → Prop} {s : Shared}
theorem re_drive {Q : Sre.M → Shared → Prop} : ∀ (n turns : Nat) (m : Sre.M), n < turns → (m.runFor (4 * (n + 1))).outcome.isSome = true → Q (m.runFor (4 * (n + 1))) s → wpAny M A (reDrive turns m) Q E s
  | n, 0, _, h, _, _ => absurd h (Nat.not_lt_zero n)
  | n, turns + 1, m, hn, ho, hq => by
    unfold reDrive
    have e4 : reTurnSteps = 4 := rfl
    rw [e4]
    by_cases h : (m.runFor 4).outcome.isSome = true
    · simp only [h, if_true]
      have e : m.runFor (4 * (n + 1)) = m.runFor 4 := by
        rw [show 4 * (n + 1) = 4 + 4 * n by omega, run_add, run_done h]
      rw [e] at hq
      exact wpAny_pure hq
    · simp only [h, Bool.false_eq_true, if_false]
      cases n with
      | zero => exact absurd ho h
      | succ n =>
        rw [show 4 * (n + 1 + 1) = 4 + 4 * (n + 1) by omega, run_add] at ho hq
        exact wpAny_bind (wpAny_rule (re_drive n turns _ (by omega) ho hq))
theorem for_rules {f : Nat → PUnit → Sem (ForInStep PUnit)} {Q : PUnit → Shared → Prop} (hf : ∀ i (Q' : ForInStep PUnit → Shared → Prop), Q' (.yield ⟨⟩) s → wpAny M A (f i ⟨⟩) Q' E s) (hQ : Q ⟨⟩ s) : ∀ l : List Nat, wpAny M A (forIn l PUnit.unit f) Q E s
  | [] => by rw [List.forIn_nil]; exact wpAny_pure hQ
  | i :: l => by
    rw [List.forIn_cons]
    exact wpAny_bind (hf i _ (for_rules hf hQ l))
theorem re_run {n : Nat} {m : Sre.M} {o : Sre.Outcome} {Q : Option Sre.M → Shared → Prop} (hn : n < 2 ^ 64) (ho : (m.runFor (4 * (n + 1))).outcome = some o)
    (hq : match o with | .matched => Q (some (m.runFor (4 * (n + 1)))) s | .failed => Q none s | .stuck _ => False) : wpAny M A (reRunToEnd m) Q E s := by
  unfold reRunToEnd
  refine wpAny_bind (re_drive n _ m hn (by rw [ho]; rfl) ?_)
  refine wpAny_bind (for_rules (fun i Q' h => ?_) ?_ _)
  · skip
    split
    · exact wpAny_bind (wpAny_rule (wpAny_pure h))
    · exact wpAny_pure h
  · rw [ho]
    cases o with
    | matched => exact wpAny_pure hq
    | failed => exact wpAny_pure hq
    | stuck w => exact hq.elim
end
end Mine

end

section
open PySem PySem.W PyProof.Rows
namespace Mine
open PySem.Sre
noncomputable def P1 : Array Nat := #[14, 4, 0, 1, 1, 6, 1, 16, 46, 1]
noncomputable def mk1 (text : Array Nat) (s : Nat) (must out : Bool) (handed : Nat) (marks : Array (Option Nat)) (seen : Sre.Seen) : M :=
  { code := P1, text := text, lim := text.size, start := s, lastStart := text.size, wholeText := false, mustAdvance := must, pc := 5, pos := s, handed := handed, outermost := out, marks := marks, lastmark := -1, lastindex := -1, loops := #[], inner := none,
    frames := [{ wait := .nextStart, pc := 5, pos := s, outermost := out }], weight := 1, answer := none, seen := seen, outcome := none }
noncomputable def hit1 (text : Array Nat) (s : Nat) : Prop := (s = 0 ∨ text.getD (s - 1) 0 = 10) ∧ text[s]? = some 46
theorem mk1_at (text : Array Nat) (s : Nat) (must out : Bool) (handed : Nat) (marks : Array (Option Nat)) (seen : Sre.Seen) : M.step { mk1 text s must out handed marks seen with pc := 5 } =
    if (s == 0 || text.getD (s - 1) 0 == 10) = true then { mk1 text s must out handed marks ((seen.add 6).add 44) with pc := 7 } else { mk1 text s must out handed marks ((seen.add 6).add 44) with pc := 5, answer := some false } := by
  rfl
theorem mk1_lit (text : Array Nat) (s : Nat) (must out : Bool) (handed : Nat) (marks : Array (Option Nat)) (seen : Sre.Seen) : M.step { mk1 text s must out handed marks seen with pc := 7 } =
    if s ≥ text.size then { mk1 text s must out handed marks (seen.add 16) with pc := 7, answer := some false } else
    match (Except.ok (text.getD s 0 == 46, seen.add 16) : Except String (Bool × Sre.Seen)) with
    | .error why => M.stick { mk1 text s must out handed marks (seen.add 16) with pc := 7 } why
    | .ok (false, seen) => { mk1 text s must out handed marks seen with pc := 7, answer := some false }
    | .ok (true, seen) => { mk1 text s must out handed marks seen with pc := 9, pos := s + 1 } := by
  rfl
theorem mk1_suc (text : Array Nat) (s : Nat) (must out : Bool) (handed : Nat) (marks : Array (Option Nat)) (seen : Sre.Seen) : M.step { mk1 text s must out handed marks seen with pc := 9, pos := s + 1 } =
    if (out && ((false && (s + 1 != text.size)) || (must && (s + 1 == s)))) = true then { mk1 text s must out handed marks (seen.add 1) with pc := 9, pos := s + 1, answer := some false } else { mk1 text s must out (s + 1) marks (seen.add 1) with pc := 9, pos := s + 1, answer := some true } := by
  rfl
theorem mk1_yes (text : Array Nat) (s p q : Nat) (must out : Bool) (handed : Nat) (marks : Array (Option Nat)) (seen : Sre.Seen) : M.step { mk1 text s must out handed marks seen with pc := p, pos := q, answer := some true } =
    { mk1 text s must out handed marks seen with frames := [], weight := 0, answer := some true } := by
  rfl
theorem mk1_end (text : Array Nat) (s : Nat) (must out : Bool) (handed : Nat) (marks : Array (Option Nat)) (seen : Sre.Seen) (b : Bool) : M.step { mk1 text s must out handed marks seen with frames := [], weight := 0, answer := some b } =
    { mk1 text s must out handed marks seen with frames := [], weight := 0, answer := some b, outcome := some (if b = true then .matched else .failed) } := by
  rfl
theorem mk1_no (text : Array Nat) (s p q : Nat) (must out : Bool) (handed : Nat) (marks : Array (Option Nat)) (seen : Sre.Seen) : M.step { mk1 text s must out handed marks seen with pc := p, pos := q, answer := some false } =
    if s < text.size then mk1 text (s + 1) false false (s + 1) marks seen else { mk1 text s must out handed marks seen with frames := [], weight := 0, answer := some false } := by
  rfl
theorem rs {m : M} (n : Nat) (h : m.outcome = none) : m.runFor (n + 1) = m.step.runFor n := by rw [M.runFor, if_neg (by rw [h]; decide)]
noncomputable def Found1 (text : Array Nat) (k s : Nat) (m0 : M) : Prop :=
    (∃ j m n, s ≤ j ∧ hit1 text j ∧ (∀ i, s ≤ i → i < j → ¬ hit1 text i) ∧ n ≤ 6 * (k + 1) ∧ m0.runFor n = m ∧ m.outcome = some .matched ∧ m.start = j ∧ m.handed = j + 1) ∨
    (∃ m n, (∀ i, s ≤ i → ¬ hit1 text i) ∧ n ≤ 6 * (k + 1) ∧ m0.runFor n = m ∧ m.outcome = some .failed)
theorem find1 (text : Array Nat) : ∀ (k s : Nat) (must out : Bool) (handed : Nat) (marks : Array (Option Nat)) (seen : Sre.Seen), text.size = s + k → Found1 text k s (mk1 text s must out handed marks seen) := by
  intro k
  induction k with
  | zero =>
    intro s must out handed marks seen hk
    refine .inr ⟨_, 5, fun i hi h => ?_, by omega, rfl, ?_⟩
    · have := h.2; rw [Array.getElem?_eq_none (by omega)] at this; cases this
    · show M.outcome (M.runFor 5 { mk1 text s must out handed marks seen with pc := 5 }) = _
      rw [rs 4 rfl, mk1_at]
      split
      · rw [rs 3 rfl, mk1_lit, if_pos (by omega), rs 2 rfl]
        rw [show ({ mk1 text s must out handed marks (((seen.add 6).add 44).add 16) with pc := 7, answer := some false } : M) = { mk1 text s must out handed marks (((seen.add 6).add 44).add 16) with pc := 7, pos := s, answer := some false } from rfl, mk1_no, if_neg (by omega), rs 1 rfl, mk1_end]
        rfl
      · rw [rs 3 rfl]
        rw [show ({ mk1 text s must out handed marks ((seen.add 6).add 44) with pc := 5, answer := some false } : M) = { mk1 text s must out handed marks ((seen.add 6).add 44) with pc := 5, pos := s, answer := some false } from rfl, mk1_no, if_neg (by omega), rs 2 rfl, mk1_end]
        rfl
  | succ k ih =>
    intro s must out handed marks seen hk
    have again : ∀ (n0 : Nat) (marks' : Array (Option Nat)) (seen' : Sre.Seen), n0 ≤ 6 → (∀ n, (mk1 text s must out handed marks seen).runFor (n0 + n) = (mk1 text (s + 1) false false (s + 1) marks' seen').runFor n) → ¬ hit1 text s → Found1 text (k + 1) s (mk1 text s must out handed marks seen) := fun n0 marks' seen' h0 hrun hno => by
      rcases ih (s + 1) false false (s + 1) marks' seen' (by omega) with ⟨j, m, n, h1, h2, h3, h4, h5, h6⟩ | ⟨m, n, h3, h4, h5, h6⟩
      · exact Or.inl ⟨j, m, n0 + n, by omega, h2, fun i hi hj => by
          by_cases e : i = s
          · rw [e]; exact hno
          · exact h3 i (by omega) hj, by omega, by rw [hrun]; exact h5, h6⟩
      · exact Or.inr ⟨m, n0 + n, fun i hi => by
          by_cases e : i = s
          · rw [e]; exact hno
          · exact h3 i (by omega), by omega, by rw [hrun]; exact h5, h6⟩
    by_cases hb : (s == 0 || text.getD (s - 1) 0 == 10) = true
    · have hb' : s = 0 ∨ text.getD (s - 1) 0 = 10 := by simpa using hb
      by_cases hl : text.getD s 0 = 46
      · have hs : text[s]? = some 46 := by
          rw [Array.getElem?_eq_getElem (by omega)]
          rw [Array.getD_eq_getD_getElem?, Array.getElem?_eq_getElem (by omega)] at hl
          exact congrArg some hl
        refine .inl ⟨s, _, 5, Nat.le_refl _, ⟨hb', hs⟩, fun i h1 h2 => by omega, by omega, rfl, ?_⟩
        show (M.runFor 5 { mk1 text s must out handed marks seen with pc := 5 }).outcome = _ ∧ (M.runFor 5 { mk1 text s must out handed marks seen with pc := 5 }).start = _ ∧ (M.runFor 5 { mk1 text s must out handed marks seen with pc := 5 }).handed = _
        rw [rs 4 rfl, mk1_at, if_pos hb, rs 3 rfl, mk1_lit, if_neg (by omega), hl]
        have e : ((46 : Nat) == 46) = true := rfl
        rw [e]
        show (M.runFor 3 { mk1 text s must out handed marks (((seen.add 6).add 44).add 16) with pc := 9, pos := s + 1 }).outcome = _ ∧ (M.runFor 3 { mk1 text s must out handed marks (((seen.add 6).add 44).add 16) with pc := 9, pos := s + 1 }).start = _ ∧ (M.runFor 3 { mk1 text s must out handed marks (((seen.add 6).add 44).add 16) with pc := 9, pos := s + 1 }).handed = _
        rw [rs 2 rfl, mk1_suc, if_neg (by simp), rs 1 rfl, mk1_yes, rs 0 rfl, mk1_end]
        exact ⟨rfl, rfl, rfl⟩
      · refine again 3 marks (((seen.add 6).add 44).add 16) (by omega) (fun n => ?_) (fun h => hl ?_)
        · rw [show 3 + n = ((n + 1) + 1) + 1 by omega]
          show (M.runFor (((n + 1) + 1) + 1) { mk1 text s must out handed marks seen with pc := 5 }) = _
          rw [rs _ rfl, mk1_at, if_pos hb, rs _ rfl, mk1_lit, if_neg (by omega), show (text.getD s 0 == 46) = false by simpa using hl]
          rw [rs _ rfl]
          show (M.step { mk1 text s must out handed marks (((seen.add 6).add 44).add 16) with pc := 7, pos := s, answer := some false }).runFor n = _
          rw [mk1_no, if_pos (by omega)]
        · have := h.2
          rw [Array.getD_eq_getD_getElem?, this]; rfl
    · refine again 2 marks ((seen.add 6).add 44) (by omega) (fun n => ?_) (fun h => hb (by have := h.1; simpa using this))
      rw [show 2 + n = (n + 1) + 1 by omega]
      show (M.runFor ((n + 1) + 1) { mk1 text s must out handed marks seen with pc := 5 }) = _
      rw [rs _ rfl, mk1_at, if_neg hb, rs _ rfl]
      show (M.step { mk1 text s must out handed marks ((seen.add 6).add 44) with pc := 5, pos := s, answer := some false }).runFor n = _
      rw [mk1_no, if_pos (by omega)]
theorem fs1 (text : Array Nat) (g pos : Nat) (must : Bool) (h : pos < text.size) : forSearch P1 text g pos text.size must = mk1 text pos must true pos (Array.replicate (2 * g) none) (({} : Sre.Seen).add 14) := by
  unfold forSearch
  have h0 : (header P1).1 = 1 := rfl
  have h1 : ¬ ((decide (pos > text.size) || decide (text.size - pos < (header P1).1)) = true) := by
    rw [h0, Bool.or_eq_true, decide_eq_true_eq, decide_eq_true_eq]; omega
  dsimp only
  rw [if_neg h1]
  rfl
theorem re_run' {Mo : Model} {A : Around} {E : Value → Shared → Prop} {s : Shared} {n : Nat} {m m' : M} {o : Sre.Outcome} {Q : Option M → Shared → Prop} (hn : n < 2 ^ 63) (hr : m.runFor n = m') (ho : m'.outcome = some o)
    (hq : match o with | .matched => Q (some m') s | .failed => Q none s | .stuck _ => False) : wpAny Mo A (Builtin.Re.reRunToEnd m) Q E s := by
  have e : m.runFor (4 * (n + 1)) = m' := by
    rw [show 4 * (n + 1) = n + (3 * n + 4) by omega, run_add, hr, run_done (by rw [ho]; rfl)]
  refine re_run (n := n) (by omega) (by rw [e]; exact ho) ?_
  cases o with
  | matched => show Q (some (M.runFor (4 * (n + 1)) m)) s; rw [e]; exact hq
  | failed => exact hq
  | stuck w => exact hq
theorem search1 {Mo : Model} {A : Around} {E : Value → Shared → Prop} {s : Shared} {t : Builtin.Re.ReTarget} {start : Nat} {must : Bool} {Q : Option M → Shared → Prop} (hc : t.code = P1) (hl : t.lim = t.text.size) (hs : start ≤ t.text.size) (hz : t.text.size < 2 ^ 40)
    (hY : ∀ m j, start ≤ j → hit1 t.text j → (∀ i, start ≤ i → i < j → ¬ hit1 t.text i) → m.start = j → m.handed = j + 1 → Q (some m) s) (hN : (∀ i, start ≤ i → ¬ hit1 t.text i) → Q none s) :
    wpAny Mo A (Builtin.Re.reNextFound t start must) Q E s := by
  unfold Builtin.Re.reNextFound
  rw [hc, hl]
  by_cases h : start < t.text.size
  · rw [fs1 _ _ _ _ h]
    obtain ⟨k, hk⟩ : ∃ k, t.text.size = start + k := ⟨t.text.size - start, by omega⟩
    rcases find1 t.text k start must true start (Array.replicate (2 * t.groups) none) (({} : Sre.Seen).add 14) hk with ⟨j, m, n, h1, h2, h3, h4, h5, h6, h7, h8⟩ | ⟨m, n, h3, h4, h5, h6⟩
    · exact re_run' (n := n) (by omega) h5 h6 (hY m j h1 h2 h3 h7 h8)
    · exact re_run' (n := n) (by omega) h5 h6 (hN h3)
  · have e : start = t.text.size := by omega
    subst e
    have h0 : (header P1).1 = 1 := rfl
    have h1 : (decide (t.text.size > t.text.size) || decide (t.text.size - t.text.size < (header P1).1)) = true := by
      rw [h0, Bool.or_eq_true, decide_eq_true_eq, decide_eq_true_eq]; omega
    unfold forSearch
    dsimp only
    rw [if_pos h1]
    refine re_run' (n := 1) (o := .failed) (by omega) rfl rfl (hN fun i hi hh => ?_)
    have := hh.2; rw [Array.getElem?_eq_none hi] at this; cases this
end Mine

end

section
open PySem PySem.W PyProof.Rows
namespace Mine
open PySem.Sre
noncomputable def P3 : Array Nat := #[14, 9, 4, 1, 2, 16, 10, 16, 13, 0, 7, 7, 16, 13, 16, 10, 15, 18, 5, 16, 10, 15, 13, 11, 16, 13, 5, 5, 0, 16, 10, 1, 15, 2, 0, 1]
noncomputable def mk3 (text : Array Nat) (s : Nat) (must : Bool) (marks : Array (Option Nat)) (pc pos handed : Nat) (out : Bool) (frames : List Sre.Frame) (weight : Nat) (answer : Option Bool) (seen : Sre.Seen) : M :=
  { code := P3, text := text, lim := text.size, start := s, lastStart := text.size, wholeText := false, mustAdvance := must, pc := pc, pos := pos, handed := handed, outermost := out, marks := marks, lastmark := -1, lastindex := -1, loops := #[], inner := none,
    frames := frames, weight := weight, answer := answer, seen := seen, outcome := none }
noncomputable def fS (s : Nat) (o : Bool) : Sre.Frame := { wait := .nextStart, pc := 10, pos := s, outermost := o }
noncomputable def fB (pc s : Nat) (o : Bool) : Sre.Frame := { wait := .nextBranch, pc := pc, pos := s, outermost := o, kept := { lastmark := -1, lastindex := -1, whole := false, marks := #[] } }
noncomputable def fN (s : Nat) (o : Bool) : Sre.Frame := { wait := .lookNot, pc := 26, pos := s, outermost := o, kept := { lastmark := -1, lastindex := -1, whole := false, marks := #[] } }
variable (text : Array Nat) (s : Nat) (must : Bool) (marks : Array (Option Nat)) (pos handed : Nat) (out : Bool) (fr : List Sre.Frame) (seen : Sre.Seen)
theorem m3_branch : (mk3 text s must marks 10 s handed out [fS s out] 1 none seen).step = mk3 text s must marks 12 s s out [fB 11 s out, fS s out] 2 none (seen.add 7) := by rfl
noncomputable def litRes (text : Array Nat) (s : Nat) (must : Bool) (marks : Array (Option Nat)) (pc w pos handed : Nat) (out : Bool) (fr : List Sre.Frame) (wt : Nat) (seen : Sre.Seen) : M :=
  if pos ≥ text.size then mk3 text s must marks pc pos handed out fr wt (some false) (seen.add 16) else
    match (Except.ok (text.getD pos 0 == w, seen.add 16) : Except String (Bool × Sre.Seen)) with
    | .error why => M.stick (mk3 text s must marks pc pos handed out fr wt none (seen.add 16)) why
    | .ok (false, seen) => mk3 text s must marks pc pos handed out fr wt (some false) seen
    | .ok (true, seen) => mk3 text s must marks (pc + 2) (pos + 1) handed out fr wt none seen
theorem m3_lit12 (wt : Nat) : (mk3 text s must marks 12 pos handed out fr wt none seen).step = litRes text s must marks 12 13 pos handed out fr wt seen := by rfl
theorem m3_lit14 (wt : Nat) : (mk3 text s must marks 14 pos handed out fr wt none seen).step = litRes text s must marks 14 10 pos handed out fr wt seen := by rfl
theorem m3_lit19 (wt : Nat) : (mk3 text s must marks 19 pos handed out fr wt none seen).step = litRes text s must marks 19 10 pos handed out fr wt seen := by rfl
theorem m3_lit24 (wt : Nat) : (mk3 text s must marks 24 pos handed out fr wt none seen).step = litRes text s must marks 24 13 pos handed out fr wt seen := by rfl
theorem m3_lit29 (wt : Nat) : (mk3 text s must marks 29 pos handed out fr wt none seen).step = litRes text s must marks 29 10 pos handed out fr wt seen := by rfl
theorem m3_jump16 (wt : Nat) : (mk3 text s must marks 16 pos handed out fr wt none seen).step = mk3 text s must marks 35 pos handed out fr wt none (seen.add 15) := by rfl
theorem m3_jump21 (wt : Nat) : (mk3 text s must marks 21 pos handed out fr wt none seen).step = mk3 text s must marks 35 pos handed out fr wt none (seen.add 15) := by rfl
theorem m3_jump32 (wt : Nat) : (mk3 text s must marks 32 pos handed out fr wt none seen).step = mk3 text s must marks 35 pos handed out fr wt none (seen.add 15) := by rfl
theorem m3_suc (wt : Nat) : (mk3 text s must marks 35 pos handed out fr wt none seen).step = if (out && ((false && (pos != text.size)) || (must && (pos == s)))) = true then mk3 text s must marks 35 pos handed out fr wt (some false) (seen.add 1) else mk3 text s must marks 35 pos pos out fr wt (some true) (seen.add 1) := by rfl
theorem m3_no11 (pc q : Nat) (o : Bool) : (mk3 text s must marks pc q handed o [fB 11 s out, fS s out] 2 (some false) seen).step = mk3 text s must marks 19 s s out [fB 18 s out, fS s out] 2 none seen := by rfl
theorem m3_no18 (pc q : Nat) (o : Bool) : (mk3 text s must marks pc q handed o [fB 18 s out, fS s out] 2 (some false) seen).step = mk3 text s must marks 24 s s out [fB 23 s out, fS s out] 2 none seen := by rfl
theorem m3_not : (mk3 text s must marks 26 (s + 1) handed out [fB 23 s out, fS s out] 2 none seen).step = mk3 text s must marks 29 (s + 1) (s + 1) false [fN (s + 1) out, fB 23 s out, fS s out] 3 none (seen.add 5) := by rfl
theorem m3_not' (pc q : Nat) (o : Bool) : (mk3 text s must marks pc q handed o [fN (s + 1) out, fB 23 s out, fS s out] 3 (some false) seen).step = mk3 text s must marks 32 (s + 1) handed out [fB 23 s out, fS s out] 2 none seen := by rfl
theorem m3_yes (pc q b : Nat) (o : Bool) : (mk3 text s must marks pc q handed o [fB b s out, fS s out] 2 (some true) seen).step = mk3 text s must marks b s handed out [fS s out] 1 (some true) seen := by rfl
theorem m3_yes' (pc q : Nat) (o : Bool) : (mk3 text s must marks pc q handed o [fS s out] 1 (some true) seen).step = mk3 text s must marks 10 s handed out [] 0 (some true) seen := by rfl
theorem m3_end (pc q : Nat) (o : Bool) : (mk3 text s must marks pc q handed o [] 0 (some true) seen).step = { mk3 text s must marks pc q handed o [] 0 (some true) seen with outcome := some .matched } := by rfl
noncomputable def eol (text : Array Nat) (s : Nat) : Nat := if text.getD s 0 = 13 ∧ text[s + 1]? = some 10 then s + 2 else s + 1
theorem lit_yes {pc w wt : Nat} {text : Array Nat} {s : Nat} {must : Bool} {marks : Array (Option Nat)} {pos handed : Nat} {out : Bool} {fr : List Sre.Frame} {seen : Sre.Seen} (h : pos < text.size) (hw : text.getD pos 0 = w) : litRes text s must marks pc w pos handed out fr wt seen = mk3 text s must marks (pc + 2) (pos + 1) handed out fr wt none (seen.add 16) := by
  unfold litRes
  rw [if_neg (by omega), hw]
  rw [show (w == w) = true by simp]
theorem lit_no {pc w wt : Nat} {text : Array Nat} {s : Nat} {must : Bool} {marks : Array (Option Nat)} {pos handed : Nat} {out : Bool} {fr : List Sre.Frame} {seen : Sre.Seen} (hw : ¬ (pos < text.size ∧ text.getD pos 0 = w)) : litRes text s must marks pc w pos handed out fr wt seen = mk3 text s must marks pc pos handed out fr wt (some false) (seen.add 16) := by
  unfold litRes
  split
  · rfl
  · rename_i h
    rw [show (text.getD pos 0 == w) = false by rw [beq_eq_false_iff_ne]; exact fun e => hw ⟨by omega, e⟩]
theorem run3 (h : s < text.size) (hc : text.getD s 0 = 13 ∨ text.getD s 0 = 10) : ∃ m n, n ≤ 20 ∧ (mk3 text s must marks 10 s handed true [fS s true] 1 none seen).runFor n = m ∧ m.outcome = some .matched ∧ m.start = s ∧ m.handed = eol text s := by
  have nx : text[s + 1]? = some 10 ↔ (s + 1 < text.size ∧ text.getD (s + 1) 0 = 10) := by
    rw [Array.getD_eq_getD_getElem?]
    by_cases h1 : s + 1 < text.size
    · rw [Array.getElem?_eq_getElem h1]; simp [h1]
    · rw [Array.getElem?_eq_none (by omega)]; simp [h1]
  rcases hc with hc | hc
  · by_cases h2 : s + 1 < text.size ∧ text.getD (s + 1) 0 = 10
    · refine ⟨_, 8, by omega, rfl, ?_⟩
      have e : eol text s = s + 2 := by unfold eol; rw [if_pos ⟨hc, nx.mpr h2⟩]
      rw [e]
      rw [rs 7 rfl, m3_branch, rs 6 rfl, m3_lit12, lit_yes h hc, rs 5 rfl, m3_lit14, lit_yes h2.1 h2.2, rs 4 rfl, m3_jump16, rs 3 rfl, m3_suc, if_neg (by simp <;> omega), rs 2 rfl, m3_yes, rs 1 rfl, m3_yes', rs 0 rfl, m3_end]
      exact ⟨rfl, rfl, rfl⟩
    · refine ⟨_, 15, by omega, rfl, ?_⟩
      have e : eol text s = s + 1 := by unfold eol; rw [if_neg (fun h => h2 (nx.mp h.2))]
      rw [e]
      rw [rs 14 rfl, m3_branch, rs 13 rfl, m3_lit12, lit_yes h hc, rs 12 rfl, m3_lit14, lit_no h2, rs 11 rfl, m3_no11, rs 10 rfl, m3_lit19, lit_no (by rw [hc]; omega), rs 9 rfl, m3_no18, rs 8 rfl, m3_lit24, lit_yes h hc, rs 7 rfl, m3_not, rs 6 rfl, m3_lit29, lit_no h2, rs 5 rfl, m3_not', rs 4 rfl, m3_jump32, rs 3 rfl, m3_suc, if_neg (by simp <;> omega), rs 2 rfl, m3_yes, rs 1 rfl, m3_yes', rs 0 rfl, m3_end]
      exact ⟨rfl, rfl, rfl⟩
  · refine ⟨_, 9, by omega, rfl, ?_⟩
    have e : eol text s = s + 1 := by unfold eol; rw [if_neg (fun h => by rw [hc] at h; exact absurd h.1 (by decide))]
    rw [e]
    rw [rs 8 rfl, m3_branch, rs 7 rfl, m3_lit12, lit_no (by rw [hc]; omega), rs 6 rfl, m3_no11, rs 5 rfl, m3_lit19, lit_yes h hc, rs 4 rfl, m3_jump21, rs 3 rfl, m3_suc, if_neg (by simp <;> omega), rs 2 rfl, m3_yes, rs 1 rfl, m3_yes', rs 0 rfl, m3_end]
    exact ⟨rfl, rfl, rfl⟩
theorem set3 (c : Nat) (seen : Sre.Seen) : ∃ seen', inSet P3 c P3.size 5 true seen = .ok (c == 10 || c == 13, seen') := by
  by_cases h : c = 10
  · subst h; exact ⟨_, rfl⟩
  · by_cases h2 : c = 13
    · subst h2; exact ⟨_, rfl⟩
    · have e1 : (c == 10) = false := by simpa using h
      have e2 : (c == 13) = false := by simpa using h2
      refine ⟨((seen.add 16).add 16).add 0, ?_⟩
      rw [e1, e2]
      show (if (c == 10) = true then _ else (if (c == 13) = true then _ else _)) = _
      rw [e1, e2]; rfl
noncomputable def isE (text : Array Nat) (j : Nat) : Prop := text.getD j 0 = 13 ∨ text.getD j 0 = 10
theorem adm3 (text : Array Nat) {m : M} (h1 : m.code = P3) (h2 : m.text = text) (h3 : m.lim = text.size) : ∀ (fuel s : Nat) (seen : Sre.Seen), text.size ≤ s + fuel → ∃ seen',
    (∃ j, s ≤ j ∧ j < text.size ∧ isE text j ∧ (∀ i, s ≤ i → i < j → ¬ isE text i) ∧ m.admitted fuel s seen = .ok (some j, seen')) ∨ ((∀ i, s ≤ i → i < text.size → ¬ isE text i) ∧ m.admitted fuel s seen = .ok (none, seen'))
  | 0, s, seen, hf => ⟨seen, .inr ⟨fun i hi hl => by omega, rfl⟩⟩
  | fuel + 1, s, seen, hf => by
    by_cases hs : s ≥ text.size
    · refine ⟨seen, .inr ⟨fun i hi hl => by omega, ?_⟩⟩
      unfold M.admitted
      rw [if_pos (by rw [h3]; exact hs)]
    · obtain ⟨seen1, e1⟩ := set3 (text.getD s 0) seen
      by_cases he : isE text s
      · refine ⟨seen1, .inl ⟨s, Nat.le_refl _, by omega, he, fun i a b => by omega, ?_⟩⟩
        unfold M.admitted
        rw [if_neg (by rw [h3]; exact hs), h1, h2, e1]
        have : (text.getD s 0 == 10 || text.getD s 0 == 13) = true := by
          rw [Bool.or_eq_true, beq_iff_eq, beq_iff_eq]; exact he.symm
        rw [this]
      · have hno : (text.getD s 0 == 10 || text.getD s 0 == 13) = false := by
          rw [Bool.or_eq_false_iff, beq_eq_false_iff_ne, beq_eq_false_iff_ne]
          exact ⟨fun q => he (.inr q), fun q => he (.inl q)⟩
        obtain ⟨seen2, r⟩ := adm3 text h1 h2 h3 fuel (s + 1) seen1 (by omega)
        have step : m.admitted (fuel + 1) s seen = m.admitted fuel (s + 1) seen1 := by
          rw [M.admitted]
          rw [if_neg (by rw [h3]; exact hs), h1, h2, e1, hno]
        refine ⟨seen2, ?_⟩
        rw [step]
        have hx : ∀ i, s ≤ i → i ≠ s → s + 1 ≤ i := fun i a b => by omega
        rcases r with ⟨j, a, b, c, d, e⟩ | ⟨a, b⟩
        · exact .inl ⟨j, by omega, b, c, fun i hi hj => by
            by_cases q : i = s
            · rw [q]; exact he
            · exact d i (hx i hi q) hj, e⟩
        · exact .inr ⟨fun i hi hl => by
            by_cases q : i = s
            · rw [q]; exact he
            · exact a i (hx i hi q) hl, b⟩
theorem af3 (text : Array Nat) (g pos : Nat) (must : Bool) (h : pos < text.size) : ∃ m0 : M, m0.code = P3 ∧ m0.text = text ∧ m0.lim = text.size ∧ forSearch P3 text g pos text.size must = m0.attemptFrom pos true ∧
    (∀ j seen, M.attemptAt { m0 with mustAdvance := false, seen := seen } j true = mk3 text j false (Array.replicate (2 * g) none) 10 j j true [fS j true] 1 none seen) ∧ m0.hasFirstSet = true ∧ m0.frames = [] ∧ m0.outcome = none := by
  refine ⟨{ code := P3, text := text, lim := text.size, start := pos, lastStart := text.size, pc := 10, pos := pos, handed := pos, marks := Array.replicate (2 * g) none, mustAdvance := must, seen := ({} : Sre.Seen).add 14 }, rfl, rfl, rfl, ?_, fun j seen => rfl, rfl, rfl, rfl⟩
  have h0 : (header P3).1 = 1 := rfl
  have h1 : ¬ ((decide (pos > text.size) || decide (text.size - pos < (header P3).1)) = true) := by
    rw [h0, Bool.or_eq_true, decide_eq_true_eq, decide_eq_true_eq]; omega
  unfold forSearch
  dsimp only
  rw [if_neg h1]
  rfl
theorem search3 {Mo : Model} {A : Around} {E : Value → Shared → Prop} {s : Shared} {t : Builtin.Re.ReTarget} {start : Nat} {must : Bool} {Q : Option M → Shared → Prop} (hc : t.code = P3) (hl : t.lim = t.text.size) (hs : start ≤ t.text.size) (hz : t.text.size < 2 ^ 40)
    (hY : ∀ m j, start ≤ j → j < t.text.size → isE t.text j → (∀ i, start ≤ i → i < j → ¬ isE t.text i) → m.start = j → m.handed = eol t.text j → Q (some m) s) (hN : (∀ i, start ≤ i → i < t.text.size → ¬ isE t.text i) → Q none s) :
    wpAny Mo A (Builtin.Re.reNextFound t start must) Q E s := by
  unfold Builtin.Re.reNextFound
  rw [hc, hl]
  by_cases h : start < t.text.size
  · refine exE1 (af3 t.text t.groups start must h) fun m0 h_0 => anE8 h_0 fun a1 a2 a3 a4 a5 a6 a7 a8 => ?_
    clear h_0
    rw [a4]
    obtain ⟨seen', r⟩ := adm3 t.text a1 a2 a3 (m0.lim + 1 - start) start m0.seen (by rw [a3]; omega)
    rcases r with ⟨j, b1, b2, b3, b4, b5⟩ | ⟨b1, b2⟩
    · have e : m0.attemptFrom start true = mk3 t.text j false (Array.replicate (2 * t.groups) none) 10 j j true [fS j true] 1 none seen' := by
        unfold M.attemptFrom
        rw [a6, b5]
        exact a5 j seen'
      rw [e]
      refine exE2 (run3 t.text j false (Array.replicate (2 * t.groups) none) j seen' b2 b3) fun m n h_0 => anE5 h_0 fun c1 c2 c3 c4 c5 => ?_
      clear h_0
      exact re_run' (n := n) (by omega) c2 c3 (hY m j b1 b2 b3 b4 c4 c5)
    · have e : m0.attemptFrom start true = { m0 with seen := seen', answer := some false } := by
        unfold M.attemptFrom
        rw [a6, b2]; rfl
      rw [e]
      refine re_run' (n := 1) (m' := { m0 with seen := seen', answer := some false, outcome := some .failed }) (o := .failed) (by omega) ?_ rfl (hN b1)
      rw [rs 0 (show ({ m0 with seen := seen', answer := some false } : M).outcome = none from a8)]
      show M.step _ = _
      unfold M.step
      rw [show (({ m0 with seen := seen', answer := some false } : M).outcome.isSome) = false by show m0.outcome.isSome = false; rw [a8]; rfl]
      simp only [Bool.false_eq_true, if_false, a7]
  · have e : start = t.text.size := by omega
    subst e
    have h0 : (header P3).1 = 1 := rfl
    have h1 : (decide (t.text.size > t.text.size) || decide (t.text.size - t.text.size < (header P3).1)) = true := by
      rw [h0, Bool.or_eq_true, decide_eq_true_eq, decide_eq_true_eq]; omega
    unfold forSearch
    dsimp only
    rw [if_pos h1]
    refine re_run' (n := 1) (o := .failed) (by omega) rfl rfl (hN fun i hi hh => ?_)
    omega
end Mine

end

section
open PySem PySem.W PyProof.Rows
namespace Mine
open PySem.Builtin.Re
theorem words1 : (pat1.map reRawOf).map (·.toNat) = P1 := by
  apply Array.toList_inj.mp; simp [pat1, P1, reRawOf]
theorem words3 : (pat3.map reRawOf).map (·.toNat) = P3 := by
  apply Array.toList_inj.mp; simp [pat3, P3, reRawOf]
theorem whole_str {Mo : Model} {A : Around} {E : Value → Shared → Prop} {s : Shared} {p t : Addr} {src fl : Value} {words : Array Value} {x : Str} {u : Tok} {Q : ReTarget → Shared → Prop} (hp : PatAt s.heap p t src fl words 0)
    (h : Q { pattern := .ref p, string := .str x u, code := (words.map reRawOf).map (·.toNat), text := x.cps, kind := 0, groups := 0, pos := 0, lim := x.cps.size } s) : wpAny Mo A (reWholeTarget (.ref p) (.str x u)) Q E s := by
  obtain ⟨h1, h2⟩ := hp
  unfold reWholeTarget
  refine wpAny_bind (wpAny_fieldsOf h1 rfl ?_)
  refine wpAny_bind (wpAny_of_eq (show reTextOf (.str x u) = pure (x.cps, 0) from rfl) ?_)
  dsimp only
  refine wpAny_bind (wpAny_of_eq (show reNoCollectionInside (.str x u) 0 = pure () from rfl) ?_)
  refine wpAny_bind ?_
  show wpAny _ _ (seqItems? (.ref t) >>= _) _ _ _
  refine wpAny_bind (wpAny_seqItems h2 rfl ?_)
  exact wpAny_pure (wpAny_pure h)
end Mine

end

section
open PySem PySem.W PyProof.Rows
namespace Mine
open PySem.Builtin.Re
theorem plain_subloop : plainId "re.Pattern.sub.loop" = true := by decide +kernel
theorem entry_subloop : entryFor table "re.Pattern.sub.loop" = some Builtin.«re.Pattern.sub.loop» := entryFor_of_tree (by kernel_rfl)
structure SubOk (mk : List Nat → Tok → Value) (kind : Nat) (p t : Addr) (src fl : Value) (words : Array Value) (kd : Int) (T : List Nat) (sv rv : Value) (repl : List Nat) (out : Nat → List Nat) (tg : ReTarget) : Prop where
  ht : tg.text = T.toArray
  hk : tg.kind = kind
  lim : tg.lim = T.length
  small : T.length ≤ 100000
  whole : ∀ (M : Model) (A : Around) (E : Value → Shared → Prop) (s : Shared) (Q : ReTarget → Shared → Prop), PatAt s.heap p t src fl words kd → Q tg s → wpAny M A (reWholeTarget (.ref p) sv) Q E s
  lit : ∀ (M : Model) (A : Around) (E : Value → Shared → Prop) (s : Shared) (Q : Unit → Shared → Prop), Q () s → wpAny M A (reLiteralCannotBeTurned rv) Q E s
  slice : ∀ (M : Model) (A : Around) (E : Value → Shared → Prop) (s : Shared) (Q : Value → Shared → Prop) (b e : Nat), Q (mk ((T.drop b).take (e - b)) s.toks) { s with toks := s.toks + 1 } → wpAny M A (reSlice T.toArray kind b e) Q E s
  find : ∀ (M : Model) (A : Around) (E : Value → Shared → Prop) (s : Shared) (Q : Option Sre.M → Shared → Prop) (start : Nat) (must : Bool), start ≤ T.length →
    (∀ m, start ≤ m.start → m.start < m.handed → m.handed ≤ T.length → out start = (T.drop start).take (m.start - start) ++ (repl ++ out m.handed) → Q (some m) s) → (out start = T.drop start → Q none s) → wpAny M A (reNextFound tg start must) Q E s
  hr : ∃ u, rv = mk repl u
  replS : repl.length ≤ 2
  outS : ∀ i, i ≤ T.length → (out i).length ≤ 2 * (T.length - i)
  join : ∀ (prog : Program) (w : World) (A : Around) (E : Value → Shared → Prop) (s : Shared) (Q : Value → Shared → Prop) (L : Addr) (u : Tok) (ps : List (List Nat × Tok)), (∃ n, s.heap.get? L = some { cls := .type "list", data := .seq (ps.map fun q => mk q.1 q.2).toArray n }) → ps ≠ [] →
    (ps.map (·.1)).flatten.length ≤ 200000 → ps.length ≤ 200001 → (∀ k h' tk, (∀ b o, s.heap.get? b = some o → h'.get? b = some o) → s.heap.objs.size ≤ h'.objs.size → s.toks ≤ tk → Q (mk (ps.map (·.1)).flatten k) { s with heap := h', toks := tk }) → wpAny (model prog w) A (call (.builtin (if kind == 0 then "str.join" else "bytes.join")) [mk [] u, .ref L]) Q E s
noncomputable def SubKeep (s : Shared) (L : Addr) (s' : Shared) : Prop := ∃ h' tk, s' = { s with heap := h', toks := tk } ∧ (∀ b o, b ≠ L → s.heap.get? b = some o → h'.get? b = some o) ∧ s.heap.objs.size ≤ h'.objs.size ∧ s.toks ≤ tk
theorem SubKeep.refl (s : Shared) (L : Addr) : SubKeep s L s := ⟨s.heap, s.toks, rfl, fun _ _ _ e => e, Nat.le_refl _, Nat.le_refl _⟩
theorem SubKeep.trans {a b c : Shared} {L : Addr} (x : SubKeep a L b) (y : SubKeep b L c) : SubKeep a L c := by
  refine exE2 x fun h1 t1 h_0 => anE4 h_0 fun e_1 k1 z1 w1 => ?_
  clear h_0 x
  subst e_1
  refine exE2 y fun h2 t2 h_0 => anE4 h_0 fun e_2 k2 z2 w2 => ?_
  clear h_0 y
  subst e_2
  exact exI2 h2 t2 ⟨rfl, fun b o n e => k2 b o n (k1 b o n e), Nat.le_trans z1 z2, Nat.le_trans w1 w2⟩
theorem SubKeep.toks {a : Shared} {L : Addr} {tk : Nat} (h : a.toks ≤ tk) : SubKeep a L { a with toks := tk } := ⟨a.heap, tk, rfl, fun _ _ _ e => e, Nat.le_refl _, h⟩
theorem push_piece {M : Model} {A : Around} {E : Value → Shared → Prop} {s : Shared} {L : Addr} {vs : List Value} {v : Value} {Q : Unit → Shared → Prop} (hl : ∃ n, s.heap.get? L = some { cls := .type "list", data := .seq vs.toArray n }) (hz : vs.length ≤ 1000000)
    (h : ∀ s', SubKeep s L s' → (∃ n, s'.heap.get? L = some { cls := .type "list", data := .seq (vs ++ [v]).toArray n }) → Q () s') : wpAny M A (updateSeq L (·.push v)) Q E s := by
  refine exE1 hl fun n hl => ?_
  refine wpAny_updateSeq hl rfl (h _ ⟨_, s.toks, rfl, fun b o n e => Heap.get?_update_of_ne _ n.symm e, Nat.le_of_eq (Heap.size_after_update ..).symm, Nat.le_refl _⟩ ?_) (by rw [sizeLine_eq]; simp; omega) (by rw [sizeLine_eq]; simp; omega)
  refine ⟨n + 1, ?_⟩
  show (s.heap.update L _).get? L = _
  rw [Heap.get?_update_self _ hl rfl]
  simp [Obj.mapSeq]
theorem SubKeep.pat {s s' : Shared} {L p t : Addr} {src fl : Value} {words : Array Value} {kd : Int} (k : SubKeep s L s') (hp : L ≠ p) (ht : L ≠ t) (h : PatAt s.heap p t src fl words kd) : PatAt s'.heap p t src fl words kd := by
  refine exE2 k fun h' tk h_0 => anE4 h_0 fun e_3 kk _ _ => ?_
  clear h_0 k
  subst e_3
  exact ⟨kk _ _ hp.symm h.1, kk _ _ ht.symm h.2⟩
theorem SubKeep.tok1 {s : Shared} {L : Addr} : SubKeep s L { s with toks := s.toks + 1 } := .toks (Nat.le_succ _)
namespace hsub_loop
noncomputable def st_ (mk : List Nat → PySem.Tok → PySem.Value) (kind : Nat) (p t : PySem.Addr) (src fl : PySem.Value) (words : Array PySem.Value) (kd : Int) (T : List Nat) (sv rv : PySem.Value) (repl : List Nat) (out : Nat → List Nat) (tg : PySem.Builtin.Re.ReTarget) (L : PySem.Addr) : Prop := ∀ (O : SubOk mk kind p t src fl words kd T sv rv repl out tg) (hrv : (rv != .none) = true) (hLp : L ≠ p) (hLt : L ≠ t), ∀ (k i : Nat) (must : Bool) (n : Int) (ps : List (List Nat × Tok)), T.length - i ≤ k → i ≤ T.length → ps.length ≤ 2 * i → (ps.map (·.1)).flatten.length ≤ 2 * i →
    Meets (Builtin.«re.Pattern.sub.loop» ⟨[.ref p, sv, rv, rawInt 0, rawInt 0, rawInt n, rawInt i, rawInt i, .bool must, .ref L, .bool false], []⟩)
      (fun _ R s => PatAt s.heap p t src fl words kd ∧ (∃ n, s.heap.get? L = some { cls := .type "list", data := .seq (ps.map fun q => mk q.1 q.2).toArray n }) ∧
        ∀ s' k, SubKeep s L s' → R (.ok (.ret (mk ((ps.map (·.1)).flatten ++ out i) k))) s')
noncomputable abbrev T_ := ((((List Nat → PySem.Tok → PySem.Value) × (Nat × PySem.Addr)) × ((PySem.Addr × PySem.Value) × (PySem.Value × (Array PySem.Value)))) × (((Int × (List Nat)) × (PySem.Value × PySem.Value)) × (((List Nat) × (Nat → List Nat)) × (PySem.Builtin.Re.ReTarget × PySem.Addr))))
theorem ne_ : Nonempty T_ := ⟨by repeat' (first | apply Prod.mk | exact default | exact nAr | exact nCx | exact nSh | constructor)⟩
noncomputable def Q_ (p : T_) : Prop := st_ p.1.1.1 p.1.1.2.1 p.1.1.2.2 p.1.2.1.1 p.1.2.1.2 p.1.2.2.1 p.1.2.2.2 p.2.1.1.1 p.2.1.1.2 p.2.1.2.1 p.2.1.2.2 p.2.2.1.1 p.2.2.1.2 p.2.2.2.1 p.2.2.2.2
noncomputable def w_ : T_ := @Classical.epsilon _ ne_ fun p => ¬ Q_ p
noncomputable def mk := w_.1.1.1
noncomputable def kind := w_.1.1.2.1
noncomputable def p := w_.1.1.2.2
noncomputable def T := w_.2.1.1.2
noncomputable def sv := w_.2.1.2.1
noncomputable def rv := w_.2.1.2.2
noncomputable def repl := w_.2.2.1.1
noncomputable def out := w_.2.2.1.2
noncomputable def L := w_.2.2.2.2
theorem main_ : st_ mk kind p w_.1.2.1.1 w_.1.2.1.2 w_.1.2.2.1 w_.1.2.2.2 w_.2.1.1.1 T sv rv repl out w_.2.2.2.1 L := by
  intro O hrv hLp hLt
  intro k
  induction k with
  | zero | succ k ih =>
    intro i must n ps hk hi hps hfl prog w A R s hS
    refine anE3 hS fun hpat hl hR => ?_
    clear hS
    have hz := O.small
    unfold Builtin.«re.Pattern.sub.loop»
    dsimp only [rawInt]
    refine wpAny_bind (O.whole _ _ _ _ _ hpat ?_)
    refine (Eq.symm (show ((0 : Int) == 0) = true from rfl)) ▸ ?_
    simp only [if_true]
    refine wpAny_bind (O.lit _ _ _ _ _ ?_)
    refine (Eq.symm (show ((0 : Int) != 0 && decide (n ≥ 0)) = false from rfl)) ▸ ?_
    simp only [Bool.false_eq_true, if_false, Int.toNat_natCast]
    refine wpAny_bind (O.find _ _ _ _ _ _ _ hi (fun m h1 h2 h3 h4 => ?_) fun h4 => ?_)
    · dsimp only
      rw [O.ht, O.hk]
      refine exE1 O.hr fun ur hur => ?_
      have hrs := O.replS
      have rest : ∀ (s1 : Shared) (ps1 : List (List Nat × Tok)), SubKeep s L s1 → (∃ n, s1.heap.get? L = some { cls := .type "list", data := .seq (ps1.map fun q => mk q.1 q.2).toArray n }) → (ps1.map (·.1)).flatten = (ps.map (·.1)).flatten ++ (T.drop i).take (m.start - i) → ps1.length ≤ ps.length + 1 →
          wpAny (model prog w) A.in1 (do
            let item ← pure rv
            if (item != Value.none) = true then do
              updateSeq L fun x => x.push item
              again (Code.builtin "re.Pattern.sub.loop" { pos := [Value.ref p, sv, rv, Value.int 0 0, Value.int 0 0, Value.int (n + 1) 0, Value.int (↑m.handed) 0, Value.int (↑m.handed) 0, Value.bool (m.handed == m.start), Value.ref L, Value.bool false] })
            else again (Code.builtin "re.Pattern.sub.loop" { pos := [Value.ref p, sv, rv, Value.int 0 0, Value.int 0 0, Value.int (n + 1) 0, Value.int (↑m.handed) 0, Value.int (↑m.handed) 0, Value.bool (m.handed == m.start), Value.ref L, Value.bool false] }))
          (fun fin s' => match fin with
            | Fin.done f => R (Except.ok f) s'
            | Fin.again c' => c'.quiet = true ∧ codeAny (model prog w) A c' R s') (fun e s' => R (Except.error e) s') s1 := by
        intro s1 ps1 k1 hl1 e1 z1
        refine wpAny_bind (wpAny_pure ?_)
        refine (Eq.symm (if_pos hrv)) ▸ ?_
        refine wpAny_bind (push_piece hl1 (by rw [List.length_map]; omega) fun s2 k2 hl2 => ?_)
        have e2 : (ps1.map (fun q => mk q.1 q.2)) ++ [rv] = (ps1 ++ [(repl, ur)]).map (fun q => mk q.1 q.2) := by rw [hur]; simp
        rw [e2] at hl2
        have e3 : ((ps1 ++ [(repl, ur)]).map (·.1)).flatten = (ps.map (·.1)).flatten ++ (T.drop i).take (m.start - i) ++ repl := by simp [e1]
        have e4 : ((T.drop i).take (m.start - i)).length ≤ m.start - i := List.length_take_le _ _
        first
        | (exfalso; omega)
        | exact MeetsSeq.meets_again rfl plain_subloop entry_subloop (ih m.handed (m.handed == m.start) (n + 1) (ps1 ++ [(repl, ur)]) (by omega) h3 (by rw [List.length_append, List.length_singleton]; omega) (by rw [e3, List.length_append, List.length_append]; omega)) prog w A R s2
            ⟨(k1.trans k2).pat hLp hLt hpat, hl2, fun s' k k3 => by
              have := hR s' k ((k1.trans k2).trans k3)
              rw [h4] at this
              refine (Eq.symm e3) ▸ ?_
              simpa [List.append_assoc] using this⟩
      by_cases hd : i < m.start
      · refine (Eq.symm (if_pos hd)) ▸ ?_
        refine wpAny_bind (O.slice _ _ _ _ _ _ _ ?_)
        refine wpAny_bind (push_piece (vs := ps.map fun q => mk q.1 q.2) (by exact hl) (by rw [List.length_map]; omega) fun s1 k1 hl1 => ?_)
        refine rest s1 (ps ++ [((T.drop i).take (m.start - i), s.toks)]) (SubKeep.tok1.trans k1) ?_ (by simp) (by simp)
        simpa using hl1
      · refine (Eq.symm (if_neg hd)) ▸ ?_
        refine rest s ps (.refl ..) hl ?_ (by omega)
        have : m.start - i = 0 := by omega
        rw [this]; simp
    · dsimp only
      rw [O.ht, O.hk, O.lim]
      have fin : ∀ (s1 : Shared) (ps1 : List (List Nat × Tok)), SubKeep s L s1 → (∃ n, s1.heap.get? L = some { cls := .type "list", data := .seq (ps1.map fun q => mk q.1 q.2).toArray n }) → (ps1.map (·.1)).flatten = (ps.map (·.1)).flatten ++ out i → ps1.length ≤ ps.length + 1 →
          wpAny (model prog w) A.in1 (do
            let joiner ← reSlice T.toArray kind 0 0
            let text ← if ((← seqItems? (Value.ref L)).getD #[]).isEmpty then pure joiner
              else call (.builtin (if kind == 0 then "str.join" else "bytes.join")) [joiner, Value.ref L]
            ret text)
          (fun fin s' => match fin with
            | Fin.done f => R (Except.ok f) s'
            | Fin.again c' => c'.quiet = true ∧ codeAny (model prog w) A c' R s') (fun e s' => R (Except.error e) s') s1 := by
        intro s1 ps1 k1 hl1 e1 z1
        have ez : (T.drop 0).take (0 - 0) = [] := by simp
        have hos := O.outS i hi
        refine wpAny_bind (O.slice _ _ _ _ _ _ _ ?_)
        refine (Eq.symm ez) ▸ ?_
        refine exE1 hl1 fun n1 hl1 => ?_
        refine wpAny_bind (wpAny_seqItems (s := { s1 with toks := s1.toks + 1 }) hl1 rfl ?_)
        refine (Eq.symm Option.getD_some) ▸ ?_
        cases hps1 : ps1 with
        | nil =>
          rw [hps1] at e1
          have he : (List.map (fun q : List Nat × Tok => mk q.1 q.2) []).toArray.isEmpty = true := rfl
          refine (Eq.symm (if_pos he)) ▸ ?_
          refine wpAny_pure ?_
          have := hR { s1 with toks := s1.toks + 1 } s1.toks (k1.trans .tok1)
          rw [← e1] at this
          exact this
        | cons q r =>
          have he : ¬ (List.map (fun q : List Nat × Tok => mk q.1 q.2) (q :: r)).toArray.isEmpty = true := by simp
          refine (Eq.symm (if_neg he)) ▸ ?_
          rw [hps1] at hl1
          refine wpAny_bind (O.join _ _ _ _ { s1 with toks := s1.toks + 1 } _ L _ (q :: r) ⟨n1, hl1⟩ (by simp) (by rw [← hps1, e1, List.length_append]; omega) (by rw [← hps1]; omega) fun k h' tk kk zz ww => ?_)
          refine wpAny_pure ?_
          have := hR { s1 with heap := h', toks := tk } k (k1.trans ⟨h', tk, rfl, fun b o _ e => kk b o e, zz, Nat.le_of_succ_le ww⟩)
          rw [← e1, hps1] at this
          exact this
      by_cases hd : i < T.length
      · refine (Eq.symm (if_pos hd)) ▸ ?_
        refine wpAny_bind (O.slice _ _ _ _ _ _ _ ?_)
        refine wpAny_bind (push_piece (vs := ps.map fun q => mk q.1 q.2) (by exact hl) (by rw [List.length_map]; omega) fun s1 k1 hl1 => ?_)
        refine fin s1 (ps ++ [((T.drop i).take (T.length - i), s.toks)]) (SubKeep.tok1.trans k1) ?_ ?_ (by simp)
        · simpa using hl1
        · rw [h4]; simp [List.take_of_length_le]
      · refine (Eq.symm (if_neg hd)) ▸ ?_
        refine fin s ps (.refl ..) hl ?_ (by omega)
        rw [h4, List.drop_eq_nil_of_le (by omega)]; simp
end hsub_loop
theorem sub_loop {mk kind p t src fl words kd T sv rv repl out tg L} : hsub_loop.st_ mk kind p t src fl words kd T sv rv repl out tg L := Mine.hk hsub_loop.ne_ (P := hsub_loop.Q_) hsub_loop.main_ (((mk, (kind, p)), ((t, src), (fl, words))), (((kd, T), (sv, rv)), ((repl, out), (tg, L))))
end Mine

end

section
open PySem PySem.W PyProof.Rows
set_option maxRecDepth 100000
namespace Mine
open PySem.Builtin.Re
theorem plainAttrs_pat : PlainAttrs "re.Pattern" :=
  ⟨⟨"object.__getattribute__", by rw [typeLookup_type, builtinLookup_eq_fast]; kernel_rfl, by decide +kernel⟩, by rw [typeLookup_type, builtinLookup_eq_fast]; kernel_rfl⟩
theorem owner_pat : Manifest.owners.lookup (String.ofList ['n', 'r', 'e', 't', 't', 'a', 'P', '.', 'e', 'r'].reverse) = some Manifest.sig_re_Pattern := by kernel_rfl
theorem slot_pat_sub : Slot "re.Pattern" "sub" "re.Pattern.sub" :=
  .of (owner := "re.Pattern") (n := "sub") (by rw [typeLookup_type, builtinLookup_eq_fast]; kernel_rfl) (by decide +kernel) (by decide +kernel) (by decide +kernel)
    (by first | exact .inl (by decide +kernel) | exact .inr (by decide +kernel)) (by rw [isSubtype_type]; kernel_rfl)
theorem type_pat_sub : typeOf (.builtin "re.Pattern.sub") = pure (.type "method_descriptor") := by show builtinType _ = _; rw [builtinType_eq_fast]; kernel_rfl
theorem entry_pat_sub : entryFor table "re.Pattern.sub" = some Builtin.«re.Pattern.sub» := entryFor_of_tree (by kernel_rfl)
theorem args_pat_sub (a b c : Value) : argsOk "re.Pattern.sub" ⟨[a, b, c], []⟩ := by
  unfold argsOk; rw [signature?_of (id := "re.Pattern.sub") (n := ['b', 'u', 's']) (o := ['n', 'r', 'e', 't', 't', 'a', 'P', '.', 'e', 'r']) (by kernel_rfl) owner_pat]; kernel_rfl
theorem str_no_call : typeLookup (.type "str") "__call__" = pure none := by rw [typeLookup_type, builtinLookup_eq_fast]; kernel_rfl
theorem bytes_no_call : typeLookup (.type "bytes") "__call__" = pure none := by rw [typeLookup_type, builtinLookup_eq_fast]; kernel_rfl
theorem slot_bytes_join : Slot "bytes" "join" "bytes.join" :=
  .of (owner := "bytes") (n := "join") (by rw [typeLookup_type, builtinLookup_eq_fast]; kernel_rfl) (by decide +kernel) (by decide +kernel) (by decide +kernel)
    (by first | exact .inl (by decide +kernel) | exact .inr (by decide +kernel)) (by rw [isSubtype_type]; kernel_rfl)
theorem entry_bytes_join : entryFor table "bytes.join" = some Builtin.«bytes.join» := entryFor_of_tree (by kernel_rfl)
theorem args_bytes_join (a b : Value) : argsOk "bytes.join" ⟨[a, b], []⟩ := by
  unfold argsOk; rw [signature?_of (id := "bytes.join") (n := ['n', 'i', 'o', 'j']) (o := ['s', 'e', 't', 'y', 'b']) (by kernel_rfl) FB.owner_bytes]; kernel_rfl
theorem args_bytes_decode_2 (a b : Value) : argsOk "bytes.decode" ⟨[a, b], []⟩ := by
  unfold argsOk; rw [signature?_of (id := "bytes.decode") (n := ['e', 'd', 'o', 'c', 'e', 'd']) (o := ['s', 'e', 't', 'y', 'b']) (by kernel_rfl) FB.owner_bytes]; kernel_rfl
end Mine

end

section
open PySem PySem.W PyProof.Rows
namespace Mine
open PySem.Builtin
theorem takeq {id : String} {b : Array UInt8} {t : Tok} : Bytes.takeBufferQuiet? id (.bytes b t) 0 = pure (some (b, none)) := by
  have hf : ((0 : Int) == Bytes.fullReadOnly) = false := by decide
  unfold Bytes.takeBufferQuiet? Bytes.takeBuffer?
  rw [KBy.special_eq KBy.look_buffer, KBy.own_buffer, hf]
  simp only [pure_bind]
  refine (Eq.symm KBy.buffer_eq) ▸ ?_
  kernel_rfl
theorem joined_eq (parts : List (Array UInt8)) : Bytes.joined #[] parts = (parts.map (·.toList)).flatten.toArray := by
  unfold Bytes.joined
  have : ∀ (l : List (Array UInt8 × Nat)) (a : Array UInt8), l.foldl (fun out (p, i) => (if i > 0 then out ++ #[] else out) ++ p) a = a ++ (l.map (·.1.toList)).flatten.toArray := by
    intro l
    induction l with
    | nil => intro a; simp
    | cons x l ih =>
      intro a
      refine via fun ξ κ=>?_
      obtain ⟨p, i⟩ := x
      refine κ ?_;clear κ ξ
      rw [List.foldl_cons, ih]
      apply Array.toList_inj.mp
      simp
  rw [this]
  apply Array.toList_inj.mp
  have e : (parts.zipIdx.map fun x => x.1.toList) = parts.map (·.toList) := by
    rw [show (parts.zipIdx.map fun x => x.1.toList) = (parts.zipIdx.map Prod.fst).map (·.toList) by rw [List.map_map]; rfl, List.zipIdx_map_fst]
  simp [e]
theorem letgo_bytes {M : Model} {A : Around} {E : Value → Shared → Prop} {s : Shared} {keep : List Value} {Q : Unit → Shared → Prop} (h : Q () s) : ∀ l : List (Value × Option Value), (∀ x ∈ l, x.2 = none) → wpAny M A (Bytes.joinLetGo l keep) Q E s
  | [], _ => wpAny_pure h
  | (x, w) :: r, hl => by
    have hw : w = none := hl (x, w) (.head _)
    subst hw
    unfold Bytes.joinLetGo
    exact wpAny_bind (wpAny_letGo (letgo_bytes h r fun y hy => hl y (.tail _ hy)))
theorem forIn_rng {β : Type} {M : Model} {A : Around} {E : Value → Shared → Prop} {s : Shared} {n : Nat} (st : Nat → β) (f : Nat → β → Sem (ForInStep β)) (Q : β → Shared → Prop)
    (turn : ∀ i, i < n → wpAny M A (f i (st i)) (fun r s' => r = .yield (st (i + 1)) ∧ s' = s) E s) (fin : Q (st n) s) {l : List Nat} {b : β} (hl : l = List.range' 0 n) (hb : b = st 0) : wpAny M A (forIn l b f) Q E s := by
  subst hl hb
  refine wpAny_forIn_list f (fun l b s' => s' = s ∧ ∃ i, l = List.range' i (n - i) ∧ i ≤ n ∧ b = st i) Q ?_ ?_ _ _ ⟨rfl, 0, rfl, Nat.zero_le _, rfl⟩
  · rintro x l b s' ⟨rfl, j, hl, hj, rfl⟩
    have h2 : j < n := by
      refine Nat.lt_of_le_of_ne hj fun e => ?_
      rw [e] at hl; simp at hl
    rw [show n - j = (n - j - 1) + 1 by omega, List.range'_succ] at hl
    injection hl with e1 e2
    subst e1
    refine wpAny_mono (turn x h2) (fun r s'' h => ?_) fun _ _ e => e
    obtain ⟨rfl, rfl⟩ := h
    exact ⟨rfl, x + 1, by rw [e2]; congr 1, h2, rfl⟩
  · rintro b s' ⟨rfl, j, hl, hj, rfl⟩
    have : j = n := by
      have := congrArg List.length hl
      simp at this; omega
    subst this; exact fin
namespace hmeets_bjoin
noncomputable def st_ (u : PySem.Tok) (L : PySem.Addr) (n : Nat) : Prop := ∀ {ps : List (Array UInt8 × PySem.Tok)} (hne : ps ≠ []) (hz : (ps.map (·.1.size)).sum ≤ 1000000), Meets («bytes.join» ⟨[.bytes #[] u, .ref L], []⟩) (fun _ R s => s.heap.get? L = some { cls := .type "list", data := .seq (ps.map fun q => Value.bytes q.1 q.2).toArray n } ∧
      ∀ k tk, s.toks ≤ tk → R (.ok (.ret (.bytes (ps.map (·.1.toList)).flatten.toArray k))) { s with toks := tk })
noncomputable abbrev T_ := (PySem.Tok × (PySem.Addr × Nat))
theorem ne_ : Nonempty T_ := ⟨by repeat' (first | apply Prod.mk | exact default | exact nAr | exact nCx | exact nSh | constructor)⟩
noncomputable def Q_ (p : T_) : Prop := st_ p.1 p.2.1 p.2.2
noncomputable def w_ : T_ := @Classical.epsilon _ ne_ fun p => ¬ Q_ p
noncomputable def u := w_.1
noncomputable def L := w_.2.1
theorem main_ : st_ u L w_.2.2 := by
  intro ps hne hz
  refine .of_wp fun prog w A R s hS => ?_
  refine via fun ξ κ=>?_
  obtain ⟨hl, hR⟩ := hS
  refine κ ?_;clear κ ξ
  unfold «bytes.join» Bytes.joinM
  refine wpAny_bind (wpAny_of_eq (show _ = pure (Value.bytes #[] u, Value.ref L) from rfl) ?_)
  dsimp only
  have kk : (Bytes.Kind.bytes == Bytes.Kind.bytes) = true := rfl
  have kb : (Bytes.Kind.bytes == Bytes.Kind.bytearray) = false := rfl
  refine (Eq.symm (if_pos kk)) ▸ ?_
  refine wpAny_bind ?_
  unfold Bytes.joinItems
  refine wpAny_bind (wpAny_typeOf (T := "list") ⟨_, hl, rfl⟩ ?_)
  rw [if_pos (by decide)]
  refine wpAny_pure ?_
  refine wpAny_bind (wpAny_seqItems hl rfl ?_)
  dsimp only
  rw [if_pos kk]
  match hps : ps, hne with
  | [q], _ =>
    show wpAny _ _ (typeOf (Value.bytes q.1 q.2) >>= fun r => _) _ _ s
    refine wpAny_bind (wpAny_typeOf (typeIs_bytes s q.1 q.2) ?_)
    rw [if_pos (by decide)]
    refine wpAny_bind (wpAny_rule (wpAny_pure ⟨_, rfl, ?_⟩))
    have := hR q.2 s.toks (Nat.le_refl _)
    rw [show (List.map (fun x : Array UInt8 × Tok => x.1.toList) [q]).flatten.toArray = q.1 by simp] at this
    exact this
  | q1 :: q2 :: r, _ =>
    refine wpAny_bind (m := forIn [:_] _ _) ?_
    have hlen : (List.map (fun q : Array UInt8 × Tok => Value.bytes q.1 q.2) (q1 :: q2 :: r)).toArray.size = (q1 :: q2 :: r).length := by simp
    rw [hlen]
    generalize hps' : q1 :: q2 :: r = ps' at *
    subst hps
    rw [Std.Legacy.Range.forIn_eq_forIn_range']
    refine forIn_rng (n := ps.length) (fun i => (((ps.take i).map (·.1)).toArray, (ps.take i).map fun q => (Value.bytes q.1 q.2, (none : Option Value)))) _ _ (fun i hj2 => ?_) ?_ (by simp [Std.Legacy.Range.size]) (by simp)
    · refine wpAny_bind (wpAny_seqItems hl rfl ?_)
      dsimp only
      have hany : ((ps.take i).map fun q => (Value.bytes q.1 q.2, (none : Option Value))).any (fun x => x.1.onHeap) = false := by
        rw [List.any_eq_false]
        intro x hx
        refine via fun ξ κ=>?_
        obtain ⟨q, _, e_4⟩ := List.mem_map.mp hx
        refine κ ?_;clear κ ξ
        subst e_4
        simp [Value.onHeap]
      refine (Eq.symm hany) ▸ ?_
      rw [if_neg (by decide)]
      have hget : (List.map (fun q : Array UInt8 × Tok => Value.bytes q.1 q.2) ps).toArray.getD i Value.none = Value.bytes ps[i].1 ps[i].2 := by
        simp [hj2]
      refine (Eq.symm hget) ▸ ?_
      refine wpAny_bind (wpAny_holding (wpAny_of_eq takeq ?_))
      dsimp only
      refine wpAny_bind (wpAny_seqItems hl rfl ?_)
      dsimp only
      refine (Eq.symm hlen) ▸ ?_
      rw [if_neg (by simp)]
      refine wpAny_pure ⟨congrArg ForInStep.yield ?_, rfl⟩
      have e3 : ps.take (i + 1) = ps.take i ++ [ps[i]] := List.take_succ_eq_append_getElem hj2
      rw [e3, List.map_append, List.map_append]; simp
    · rw [List.take_length]
      refine wpAny_bind (wpAny_of_eq (show Bytes.payload (Value.bytes #[] u) = pure #[] from rfl) ?_)
      dsimp only
      have hsum : ∀ (l : List (Array UInt8)) (a : Nat), l.foldl (fun x1 x2 => x1 + x2.size) a = a + (l.map (·.size)).sum := by
        intro l
        induction l with
        | nil => intro a; simp
        | cons x l ih => intro a; rw [List.foldl_cons, ih]; simp; omega
      have hflat : ((ps.map (·.1.toList)).flatten).length = (ps.map (·.1.size)).sum := by
        rw [List.length_flatten, List.map_map]; rfl
      rw [if_neg (by
        unfold Bytes.tooLong
        refine ne_true_of_eq_false (decide_eq_false ?_)
        rw [show (#[] : Array UInt8).size = 0 from rfl, Nat.zero_mul, ← Array.foldl_toList, hsum, List.map_map, Nat.zero_add, sizeLine_eq]
        exact Nat.not_lt.mpr (Nat.le_trans hz (by decide)))]
      rw [joined_eq]
      have e4 : (List.map (fun x : Array UInt8 => x.toList) (List.map (fun x : Array UInt8 × Tok => x.1) ps)) = ps.map (·.1.toList) := by rw [List.map_map]; rfl
      refine (Eq.symm e4) ▸ ?_
      refine wpAny_bind (wpAny_mkBytes ?_ (by rw [List.size_toArray, hflat, sizeLine_eq]; omega))
      refine wpAny_bind (wpAny_holding (wpAny_point ?_))
      refine wpAny_bind (letgo_bytes ?_ _ fun x hx => ?_)
      · exact wpAny_pure ⟨_, rfl, hR s.toks (s.toks + 1) (Nat.le_succ _)⟩
      · obtain ⟨q, _, rfl⟩ := List.mem_map.mp hx; rfl
end hmeets_bjoin
theorem meets_bjoin {u L n} : hmeets_bjoin.st_ u L n := Mine.hk hmeets_bjoin.ne_ (P := hmeets_bjoin.Q_) hmeets_bjoin.main_ (u, (L, n))
end Mine

end

section
open PySem PySem.W PyProof.Rows
namespace Mine
open PySem.Builtin.Re
noncomputable def quo : Bool → List Nat → List Nat
  | _, [] => []
  | b, c :: r => (if (b && c == 46) = true then [46, 46] else [c]) ++ quo (c == 10) r
noncomputable def fixE : Bool → List Nat → List Nat
  | _, [] => []
  | b, c :: r => (if c = 13 then [13, 10] else if c = 10 then (if b = true then [] else [13, 10]) else [c]) ++ fixE (c == 13) r
noncomputable def begL (T : List Nat) (i : Nat) : Bool := i == 0 || T.toArray.getD (i - 1) 0 == 10
theorem drop_cons {T : List Nat} {i : Nat} (h : i < T.length) : T.drop i = T[i] :: T.drop (i + 1) := List.drop_eq_getElem_cons h
theorem getD_lt {T : List Nat} {i : Nat} (h : i < T.length) : T.toArray.getD i 0 = T[i] := by simp [h]
theorem quo_skip (T : List Nat) : ∀ (d i : Nat), i + d ≤ T.length → (∀ k, i ≤ k → k < i + d → ¬ hit1 T.toArray k) → quo (begL T i) (T.drop i) = (T.drop i).take d ++ quo (begL T (i + d)) (T.drop (i + d)) := by
  intro d
  induction d with
  | zero => intro i _ _; simp
  | succ d ih =>
    intro i hi hn
    have hlt : i < T.length := by omega
    rw [drop_cons hlt, quo, List.take_succ_cons, List.cons_append]
    have h0 := hn i (Nat.le_refl _) (by omega)
    have e1 : (begL T i && T[i] == 46) = false := by
      rw [Bool.eq_false_iff]
      intro h
      simp only [Bool.and_eq_true, beq_iff_eq, begL, Bool.or_eq_true] at h
      exact h0 ⟨h.1, by simp [hlt, h.2]⟩
    rw [e1, if_neg (by decide)]
    have e2 : (T[i] == 10) = begL T (i + 1) := by
      unfold begL; rw [Nat.add_sub_cancel, getD_lt hlt]; simp
    rw [e2, ih (i + 1) (by omega) (fun k h1 h2 => hn k (by omega) (by omega)), show i + (d + 1) = i + 1 + d by omega]
    rfl
theorem quo_hit {T : List Nat} {j : Nat} (h : hit1 T.toArray j) : quo (begL T j) (T.drop j) = [46, 46] ++ quo (begL T (j + 1)) (T.drop (j + 1)) := by
  obtain ⟨h1, h2⟩ := h
  have hlt : j < T.length := by
    refine Nat.lt_of_not_le fun hc => ?_
    rw [Array.getElem?_eq_none (by simpa using hc)] at h2; cases h2
  have h3 : T[j] = 46 := by simpa [hlt] using h2
  rw [drop_cons hlt, quo]
  have e1 : (begL T j && T[j] == 46) = true := by
    simp only [Bool.and_eq_true, beq_iff_eq, begL, Bool.or_eq_true]; exact ⟨h1, h3⟩
  rw [e1, if_pos rfl]
  congr 2
  unfold begL; rw [Nat.add_sub_cancel, getD_lt hlt]; simp
theorem fix_skip (T : List Nat) : ∀ (d i : Nat), i + d ≤ T.length → (∀ k, i ≤ k → k < i + d → ¬ isE T.toArray k) → fixE false (T.drop i) = (T.drop i).take d ++ fixE false (T.drop (i + d)) := by
  intro d
  induction d with
  | zero => intro i _ _; simp
  | succ d ih =>
    intro i hi hn
    have hlt : i < T.length := by omega
    rw [drop_cons hlt, fixE, List.take_succ_cons, List.cons_append]
    have h0 := hn i (Nat.le_refl _) (by omega)
    unfold isE at h0
    rw [getD_lt hlt] at h0
    rw [if_neg (fun e => h0 (.inl e)), if_neg (fun e => h0 (.inr e)), show (T[i] == 13) = false by rw [beq_eq_false_iff_ne]; exact fun e => h0 (.inl e)]
    rw [ih (i + 1) (by omega) (fun k h1 h2 => hn k (by omega) (by omega)), show i + (d + 1) = i + 1 + d by omega]
    rfl
theorem eol_ok {T : List Nat} {j : Nat} (hj : j < T.length) : j < eol T.toArray j ∧ eol T.toArray j ≤ T.length := by
  unfold eol
  split
  · rename_i h
    have : j + 1 < T.length := by
      refine Nat.lt_of_not_le fun hc => ?_
      rw [Array.getElem?_eq_none (by simpa using hc)] at h; cases h.2
    omega
  · omega
theorem fix_hit {T : List Nat} {j : Nat} (hj : j < T.length) (h : isE T.toArray j) : fixE false (T.drop j) = [13, 10] ++ fixE false (T.drop (eol T.toArray j)) := by
  unfold isE at h
  rw [getD_lt hj] at h
  rw [drop_cons hj, fixE]
  unfold eol
  refine (Eq.symm (getD_lt hj)) ▸ ?_
  rcases h with h | h
  · rw [if_pos h, h]
    by_cases h1 : T.toArray[j + 1]? = some 10
    · have hlt : j + 1 < T.length := by
        refine Nat.lt_of_not_le fun hc => ?_
        rw [Array.getElem?_eq_none (by simpa using hc)] at h1; cases h1
      have h3 : T[j + 1] = 10 := by simpa [hlt] using h1
      rw [if_pos ⟨rfl, h1⟩, drop_cons hlt, h3]; rfl
    · rw [if_neg (fun x => h1 x.2)]
      congr 1
      by_cases hlt : j + 1 < T.length
      · have h3 : T[j + 1] ≠ 10 := fun e => h1 (by simp [hlt, e])
        rw [drop_cons hlt, fixE, fixE]
        congr 1
        simp only [if_neg h3]
      · rw [List.drop_eq_nil_of_le (by omega)]; rfl
  · rw [if_neg (by omega), if_pos h, h, if_neg (by decide), if_neg (fun x => absurd x.1 (by decide))]; rfl
theorem quo_len : ∀ (l : List Nat) (b : Bool), (quo b l).length ≤ 2 * l.length
  | [], _ => Nat.zero_le _
  | c :: r, b => by
    rw [quo, List.length_append, List.length_cons]
    have := quo_len r (c == 10)
    split <;> simp <;> omega
theorem fix_len : ∀ (l : List Nat) (b : Bool), (fixE b l).length ≤ 2 * l.length
  | [], _ => Nat.zero_le _
  | c :: r, b => by
    rw [fixE, List.length_append, List.length_cons]
    have := fix_len r (c == 13)
    split
    · simp; omega
    · split
      · split <;> simp <;> omega
      · simp; omega
end Mine

end

section
open PySem PySem.W PyProof.Rows
namespace Mine
open PySem.Builtin.Re PySem.Builtin
noncomputable def mkS (l : List Nat) (t : Tok) : Value := .str ⟨l.toArray⟩ t
noncomputable def mkB (l : List Nat) (t : Tok) : Value := .bytes (l.map (·.toUInt8)).toArray t
theorem wholeB {Mo : Model} {A : Around} {E : Value → Shared → Prop} {s : Shared} {p t : Addr} {src fl : Value} {words : Array Value} {b : Array UInt8} {u : Tok} {Q : ReTarget → Shared → Prop} (hp : PatAt s.heap p t src fl words 1)
    (h : Q { pattern := .ref p, string := .bytes b u, code := (words.map reRawOf).map (·.toNat), text := b.map (·.toNat), kind := 1, groups := 0, pos := 0, lim := (b.map (·.toNat)).size } s) : wpAny Mo A (reWholeTarget (.ref p) (.bytes b u)) Q E s := by
  refine anE2 hp fun h1 h2 => ?_
  clear hp
  unfold reWholeTarget
  refine wpAny_bind (wpAny_fieldsOf h1 rfl ?_)
  have e1 : reTextOf (.bytes b u) = pure (b.map (·.toNat), 1) := by
    unfold reTextOf
    refine (Eq.symm KBy.quiet_eq) ▸ ?_
    rfl
  refine wpAny_bind (wpAny_of_eq e1 ?_)
  dsimp only
  have e2 : reNoCollectionInside (.bytes b u) 1 = pure () := by
    unfold reNoCollectionInside
    refine (Eq.symm KBy.isInstance_eq) ▸ ?_
    rfl
  refine wpAny_bind (wpAny_of_eq e2 ?_)
  refine wpAny_bind ?_
  show wpAny _ _ (seqItems? (.ref t) >>= _) _ _ _
  refine wpAny_bind (wpAny_seqItems h2 rfl ?_)
  exact wpAny_pure (wpAny_pure h)
theorem map_toNat {T : List Nat} (hT : ∀ c ∈ T, c < 256) : ((T.map (·.toUInt8)).toArray.map (·.toNat)) = T.toArray := by
  apply Array.toList_inj.mp
  simp only [List.map_toArray, List.map_map]
  conv => rhs; rw [← List.map_id T]
  refine List.map_congr_left fun c hc => ?_
  have := hT c hc
  show (UInt8.ofNat c).toNat = c
  rw [UInt8.toNat_ofNat']; omega
theorem joinS {prog : Program} {w : World} {A : Around} {E : Value → Shared → Prop} {s : Shared} {Q : Value → Shared → Prop} {L : Addr} {u : Tok} {ps : List (List Nat × Tok)} (hl : ∃ n, s.heap.get? L = some { cls := .type "list", data := .seq (ps.map fun q => mkS q.1 q.2).toArray n })
    (hz : (ps.map (·.1)).flatten.length ≤ 200000) (hn : ps.length ≤ 200001) (h : ∀ k h' tk, (∀ b o, s.heap.get? b = some o → h'.get? b = some o) → s.heap.objs.size ≤ h'.objs.size → s.toks ≤ tk → Q (mkS (ps.map (·.1)).flatten k) { s with heap := h', toks := tk }) :
    wpAny (model prog w) A (call (.builtin "str.join") [mkS [] u, .ref L]) Q E s := by
  refine exE1 hl fun n hl => ?_
  have are : ∀ ps : List (List Nat × Tok), StrsAre (ps.map fun q => mkS q.1 q.2) (ps.map fun q => (⟨q.1.toArray⟩ : Str)) := by
    intro ps
    induction ps with
    | nil => exact .nil
    | cons q r ih => exact .cons _ _ ih
  have jn : ∀ ps : List (List Nat × Tok), Str.join ⟨#[]⟩ (ps.map fun q => (⟨q.1.toArray⟩ : Str)) = ⟨(ps.map (·.1)).flatten.toArray⟩ := by
    intro ps
    induction ps with
    | nil => rfl
    | cons q r ih =>
      rw [List.map_cons, join_nil_cons, ih]
      apply Str.ext'
      apply Array.toList_inj.mp
      show (q.1.toArray ++ _).toList = _
      simp
  have hsum : ((ps.map fun q => (⟨q.1.toArray⟩ : Str)).map (·.length)).sum = (ps.map (·.1)).flatten.length := by
    rw [List.length_flatten, List.map_map, List.map_map]; rfl
  refine wpAny_mono (wpAny_toks_of (n := s.toks) (Nat.le_refl _) (join_list (Q := fun v s' => ∃ k tk, v = mkS (ps.map (·.1)).flatten k ∧ s' = { s with toks := tk }) (x := ⟨#[]⟩) (t := u) (items := (ps.map fun q => mkS q.1 q.2).toArray) (ys := ps.map fun q => (⟨q.1.toArray⟩ : Str)) (E := E) ⟨_, hl, rfl, n, rfl⟩ (are ps) ?_ fun t' k => ⟨t', k, ?_, rfl⟩)) (fun v s' q => ?_) fun _ _ e => e.2
  · rw [hsum]; show _ + _ * 0 ≤ _; omega
  · show Value.str (Str.glued _ _) _ = _
    rw [StrLaws.glued_eq_join, jn]; rfl
  · refine via fun ξ κ=>?_
    obtain ⟨ht, k, tk, e_1, e_2⟩ := q
    refine κ ?_;clear κ ξ
    subst e_1
    subst e_2
    exact h k s.heap tk (fun _ _ e => e) (Nat.le_refl _) ht
theorem joinB {prog : Program} {w : World} {A : Around} {E : Value → Shared → Prop} {s : Shared} {Q : Value → Shared → Prop} {L : Addr} {u : Tok} {ps : List (List Nat × Tok)} (hl : ∃ n, s.heap.get? L = some { cls := .type "list", data := .seq (ps.map fun q => mkB q.1 q.2).toArray n }) (hne : ps ≠ [])
    (hz : (ps.map (·.1)).flatten.length ≤ 200000) (h : ∀ k h' tk, (∀ b o, s.heap.get? b = some o → h'.get? b = some o) → s.heap.objs.size ≤ h'.objs.size → s.toks ≤ tk → Q (mkB (ps.map (·.1)).flatten k) { s with heap := h', toks := tk }) :
    wpAny (model prog w) A (call (.builtin "bytes.join") [mkB [] u, .ref L]) Q E s := by
  refine exE1 hl fun n hl => ?_
  have e0 : (ps.map fun q => mkB q.1 q.2) = ((ps.map fun q => ((q.1.map (·.toUInt8)).toArray, q.2)).map fun q => Value.bytes q.1 q.2) := by rw [List.map_map]; rfl
  rw [e0] at hl
  refine call_meets slot_bytes_join (typeIs_bytes _ _ _) entry_bytes_join (args_bytes_join _ _) (meets_bjoin (ps := ps.map fun q => ((q.1.map (·.toUInt8)).toArray, q.2)) (by simpa using hne) ?_) ⟨hl, fun k tk ht => ?_⟩
  · have : ((ps.map fun q => ((q.1.map (·.toUInt8)).toArray, q.2)).map (·.1.size)).sum = (ps.map (·.1)).flatten.length := by
      rw [List.length_flatten, List.map_map, List.map_map]; congr 1; refine List.map_congr_left fun q _ => ?_; simp
    rw [this]; omega
  · have := h k s.heap tk (fun _ _ e => e) (Nat.le_refl _) ht
    have e : mkB (ps.map (·.1)).flatten k = .bytes (((ps.map fun q => ((q.1.map (·.toUInt8)).toArray, q.2)).map (·.1.toList)).flatten.toArray) k := by
      unfold mkB
      congr 2
      rw [List.map_flatten, List.map_map, List.map_map]
      congr 1
    rw [e] at this
    exact this
variable {T : List Nat} {p t : Addr} {src fl : Value} {u ur : Tok}
theorem sliceS (hz : T.length ≤ 100000) (M : Model) (A : Around) (E : Value → Shared → Prop) (s : Shared) (Q : Value → Shared → Prop) (b e : Nat) (h : Q (mkS ((T.drop b).take (e - b)) s.toks) { s with toks := s.toks + 1 }) : wpAny M A (reSlice T.toArray 0 b e) Q E s := by
  unfold reSlice
  rw [if_pos (by decide)]
  have e1 : T.toArray.extract b e = ((T.drop b).take (e - b)).toArray := by simp [List.extract_eq_drop_take]
  refine (Eq.symm e1) ▸ ?_
  refine wpAny_mkStr h ?_
  show ((T.drop b).take (e - b)).toArray.size ≤ _
  rw [List.size_toArray, sizeLine_eq]
  have := List.length_take_le (e - b) (T.drop b)
  simp; omega
theorem sliceB (hz : T.length ≤ 100000) (M : Model) (A : Around) (E : Value → Shared → Prop) (s : Shared) (Q : Value → Shared → Prop) (b e : Nat) (h : Q (mkB ((T.drop b).take (e - b)) s.toks) { s with toks := s.toks + 1 }) : wpAny M A (reSlice T.toArray 1 b e) Q E s := by
  unfold reSlice
  rw [if_neg (by decide)]
  have e1 : (T.toArray.extract b e).map (·.toUInt8) = (((T.drop b).take (e - b)).map (·.toUInt8)).toArray := by simp [List.extract_eq_drop_take]
  refine (Eq.symm e1) ▸ ?_
  refine wpAny_mkBytes h ?_
  rw [List.size_toArray, sizeLine_eq]
  simp; omega
theorem find_quo {tg : ReTarget} (htx : tg.text = T.toArray) (hc : tg.code = P1) (hl : tg.lim = T.length) (hz : T.length ≤ 100000) (M : Model) (A : Around) (E : Value → Shared → Prop) (s : Shared) (Q : Option Sre.M → Shared → Prop) (start : Nat) (must : Bool) (hs : start ≤ T.length)
    (hY : ∀ m, start ≤ m.start → m.start < m.handed → m.handed ≤ T.length → quo (begL T start) (T.drop start) = (T.drop start).take (m.start - start) ++ ([46, 46] ++ quo (begL T m.handed) (T.drop m.handed)) → Q (some m) s) (hN : quo (begL T start) (T.drop start) = T.drop start → Q none s) : wpAny M A (reNextFound tg start must) Q E s := by
  refine search1 hc (by rw [htx, hl]; simp) (by rw [htx]; simpa using hs) (by rw [htx]; simp; omega) (fun m j h1 h2 h3 h4 h5 => ?_) fun h => ?_
  · rw [htx] at h2 h3
    have hlt : j < T.length := by
      refine Nat.lt_of_not_le fun hc => ?_
      have := h2.2
      rw [Array.getElem?_eq_none (by simpa using hc)] at this; cases this
    refine hY m (by omega) (by omega) (by omega) ?_
    rw [h4, h5, quo_skip T (j - start) start (by omega) (fun k k1 k2 => h3 k k1 (by omega)), show start + (j - start) = j by omega, quo_hit h2]
  · rw [htx] at h
    refine hN ?_
    rw [quo_skip T (T.length - start) start (by omega) (fun k k1 k2 => h k k1), show start + (T.length - start) = T.length by omega, List.drop_length, quo, List.append_nil]
    exact List.take_of_length_le (by simp)
theorem find_fix {tg : ReTarget} (htx : tg.text = T.toArray) (hc : tg.code = P3) (hl : tg.lim = T.length) (hz : T.length ≤ 100000) (M : Model) (A : Around) (E : Value → Shared → Prop) (s : Shared) (Q : Option Sre.M → Shared → Prop) (start : Nat) (must : Bool) (hs : start ≤ T.length)
    (hY : ∀ m, start ≤ m.start → m.start < m.handed → m.handed ≤ T.length → fixE false (T.drop start) = (T.drop start).take (m.start - start) ++ ([13, 10] ++ fixE false (T.drop m.handed)) → Q (some m) s) (hN : fixE false (T.drop start) = T.drop start → Q none s) : wpAny M A (reNextFound tg start must) Q E s := by
  refine search3 hc (by rw [htx, hl]; simp) (by rw [htx]; simpa using hs) (by rw [htx]; simp; omega) (fun m j h1 h2 h3 h4 h5 h6 => ?_) fun h => ?_
  · rw [htx] at h2 h3 h4 h6
    rw [List.size_toArray] at h2
    refine anE2 (eol_ok h2) fun g1 g2 => ?_
    refine hY m (by omega) (by omega) (by omega) ?_
    rw [h5, h6, fix_skip T (j - start) start (by omega) (fun k k1 k2 => h4 k k1 (by omega)), show start + (j - start) = j by omega, fix_hit h2 h3]
  · rw [htx] at h
    rw [List.size_toArray] at h
    refine hN ?_
    rw [fix_skip T (T.length - start) start (by omega) (fun k k1 k2 => h k k1 (by omega)), show start + (T.length - start) = T.length by omega, List.drop_length, fixE, List.append_nil]
    exact List.take_of_length_le (by simp)
noncomputable def tgS (p : Addr) (T : List Nat) (u : Tok) (words : Array Value) : ReTarget := { pattern := .ref p, string := mkS T u, code := (words.map reRawOf).map (·.toNat), text := T.toArray, kind := 0, groups := 0, pos := 0, lim := T.toArray.size }
noncomputable def tgB (p : Addr) (T : List Nat) (u : Tok) (words : Array Value) : ReTarget := { pattern := .ref p, string := mkB T u, code := (words.map reRawOf).map (·.toNat), text := T.toArray, kind := 1, groups := 0, pos := 0, lim := T.toArray.size }
theorem lit_S {x : Str} {M : Model} {A : Around} {E : Value → Shared → Prop} {s : Shared} {Q : Unit → Shared → Prop} (h : Q () s) : wpAny M A (reLiteralCannotBeTurned (.str x ur)) Q E s :=
  wpAny_of_eq (show reLiteralCannotBeTurned (.str x ur) = pure () from rfl) h
theorem lit_B {b : Array UInt8} {M : Model} {A : Around} {E : Value → Shared → Prop} {s : Shared} {Q : Unit → Shared → Prop} (h : Q () s) : wpAny M A (reLiteralCannotBeTurned (.bytes b ur)) Q E s := by
  have e : reLiteralCannotBeTurned (.bytes b ur) = pure () := by
    unfold reLiteralCannotBeTurned
    rw [KBy.isInstance_eq]; rfl
  exact wpAny_of_eq e h
theorem ok_quoS (hz : T.length ≤ 100000) : SubOk mkS 0 p t src fl pat1 0 T (mkS T u) (mkS [46, 46] ur) [46, 46] (fun i => quo (begL T i) (T.drop i)) (tgS p T u pat1) where
  ht := rfl
  hk := rfl
  lim := by simp [tgS]
  small := hz
  whole := fun M A E s Q hp h => whole_str hp h
  lit := fun M A E s Q h => lit_S h
  slice := sliceS hz
  find := fun M A E s Q start must hs hY hN => find_quo rfl words1 (by simp [tgS]) hz M A E s Q start must hs hY hN
  hr := ⟨ur, rfl⟩
  replS := by decide
  outS := fun i hi => by have := quo_len (T.drop i) (begL T i); rw [List.length_drop] at this; exact this
  join := fun prog w A E s Q L u ps hl hne hz hn h => joinS hl hz hn h
theorem ok_fixS (hz : T.length ≤ 100000) : SubOk mkS 0 p t src fl pat3 0 T (mkS T u) (mkS [13, 10] ur) [13, 10] (fun i => fixE false (T.drop i)) (tgS p T u pat3) where
  ht := rfl
  hk := rfl
  lim := by simp [tgS]
  small := hz
  whole := fun M A E s Q hp h => whole_str hp h
  lit := fun M A E s Q h => lit_S h
  slice := sliceS hz
  find := fun M A E s Q start must hs hY hN => find_fix rfl words3 (by simp [tgS]) hz M A E s Q start must hs hY hN
  hr := ⟨ur, rfl⟩
  replS := by decide
  outS := fun i hi => by have := fix_len (T.drop i) false; rw [List.length_drop] at this; exact this
  join := fun prog w A E s Q L u ps hl hne hz hn h => joinS hl hz hn h
theorem ok_quoB (hT : ∀ c ∈ T, c < 256) (hz : T.length ≤ 100000) : SubOk mkB 1 p t src fl pat1 1 T (mkB T u) (mkB [46, 46] ur) [46, 46] (fun i => quo (begL T i) (T.drop i)) (tgB p T u pat1) where
  ht := rfl
  hk := rfl
  lim := by simp [tgB]
  small := hz
  whole := fun M A E s Q hp h => wholeB hp (by rw [map_toNat hT]; exact h)
  lit := fun M A E s Q h => lit_B h
  slice := sliceB hz
  find := fun M A E s Q start must hs hY hN => find_quo rfl words1 (by simp [tgB]) hz M A E s Q start must hs hY hN
  hr := ⟨ur, rfl⟩
  replS := by decide
  outS := fun i hi => by have := quo_len (T.drop i) (begL T i); rw [List.length_drop] at this; exact this
  join := fun prog w A E s Q L u ps hl hne hz hn h => joinB hl hne hz h
noncomputable def Keeps (s s' : Shared) : Prop := ∃ h' tk, s' = { s with heap := h', toks := tk } ∧ (∀ b o, s.heap.get? b = some o → h'.get? b = some o) ∧ s.heap.objs.size ≤ h'.objs.size
theorem sub_again {mk : List Nat → Tok → Value} {kind : Nat} {words : Array Value} {kd : Int} {sv rv : Value} {repl : List Nat} {out : Nat → List Nat} {tg : ReTarget} (O : SubOk mk kind p t src fl words kd T sv rv repl out tg) (hrv : (rv != .none) = true)
    {prog : Program} {w : World} {A : Around} {R : Result → Shared → Prop} {s : Shared} (hp : PatAt s.heap p t src fl words kd) (hR : ∀ s' k, Keeps s s' → R (.ok (.ret (mk (out 0) k))) s') :
    wpAny (model prog w) A.in1 (do
      let _ ← holding [rv] (reWholeTarget (.ref p) sv)
      let l ← newList []
      again (.builtin "re.Pattern.sub.loop" ⟨[.ref p, sv, rv, rawInt 0, rawInt 0, rawInt 0, rawInt 0, rawInt 0, .bool false, l, .bool false], []⟩)) (fun fin s' => match fin with | .done f => R (.ok f) s' | .again c' => c'.quiet = true ∧ codeAny (model prog w) A c' R s') (fun e s' => R (.error e) s') s := by
  refine wpAny_bind (wpAny_holding (O.whole _ _ _ _ _ hp ?_))
  refine wpAny_bind (wpAny_newList ?_ (by simp))
  have hlp := Heap.lt_size hp.1
  have hlt := Heap.lt_size hp.2
  refine MeetsSeq.meets_again rfl plain_subloop entry_subloop (sub_loop O hrv (L := s.heap.objs.size) (Nat.ne_of_gt hlp) (Nat.ne_of_gt hlt) T.length 0 false 0 [] (by omega) (Nat.zero_le _) (by simp) (by simp)) prog w A R _ ⟨⟨Heap.get?_push_of_some _ hp.1, Heap.get?_push_of_some _ hp.2⟩, ⟨0, Heap.get?_push_size _ rfl⟩, fun s' k kk => ?_⟩
  refine exE2 kk fun h' tk h_0 => anE4 h_0 fun e_3 k1 z1 _ => ?_
  clear h_0 kk
  subst e_3
  refine hR _ k ⟨h', tk, rfl, fun b o e => k1 b o (Nat.ne_of_lt (Heap.lt_size e)) (Heap.get?_push_of_some _ e), ?_⟩
  have : s.heap.objs.size ≤ (s.heap.push { cls := .type "list", data := .seq #[] : Obj }).objs.size := by rw [Heap.size_push]; exact Nat.le_succ _
  exact Nat.le_trans this z1
theorem meets_subS {words : Array Value} {x : Str} {y : Str} {repl : List Nat} {out : Nat → List Nat} {tg : ReTarget} (O : SubOk mkS 0 p t src fl words 0 T (.str x u) (.str y ur) repl out tg) (hy : y.cps.contains 92 = false) :
    Meets («re.Pattern.sub» ⟨[.ref p, .str y ur, .str x u], []⟩) (fun _ R s => PatAt s.heap p t src fl words 0 ∧ ∀ s' k, Keeps s s' → R (.ok (.ret (mkS (out 0) k))) s') := fun prog w A R s hS => by
  unfold «re.Pattern.sub» reSubstitute
  dsimp only
  refine wpAny_bind (wpAny_of_eq (show reNamed _ _ _ _ _ _ = pure [some (Value.str y ur), some (Value.str x u), none] from rfl) ?_)
  dsimp only
  refine wpAny_bind (wpAny_pure ?_)
  refine wpAny_bind (wpAny_of_eq (show specialOf (.str y ur) _ = pure none from str_no_call) ?_)
  simp only [Option.isSome_none, Bool.false_eq_true, if_false]
  refine wpAny_bind (wpAny_of_eq (show asStr? (.str y ur) = pure (some y) from rfl) ?_)
  dsimp only
  refine (Eq.symm hy) ▸ ?_
  refine wpAny_bind (wpAny_pure ?_)
  simp only [Bool.not_false, if_true]
  refine wpAny_bind (wpAny_pure ?_)
  exact sub_again O rfl hS.1 hS.2
theorem meets_subB {words : Array Value} {x : Array UInt8} {y : Array UInt8} {repl : List Nat} {out : Nat → List Nat} {tg : ReTarget} (O : SubOk mkB 1 p t src fl words 1 T (.bytes x u) (.bytes y ur) repl out tg) (hy : y.contains 92 = false) :
    Meets («re.Pattern.sub» ⟨[.ref p, .bytes y ur, .bytes x u], []⟩) (fun _ R s => PatAt s.heap p t src fl words 1 ∧ ∀ s' k, Keeps s s' → R (.ok (.ret (mkB (out 0) k))) s') := fun prog w A R s hS => by
  unfold «re.Pattern.sub» reSubstitute
  dsimp only
  refine wpAny_bind (wpAny_of_eq (show reNamed _ _ _ _ _ _ = pure [some (Value.bytes y ur), some (Value.bytes x u), none] from rfl) ?_)
  dsimp only
  refine wpAny_bind (wpAny_pure ?_)
  refine wpAny_bind (wpAny_of_eq (show specialOf (.bytes y ur) (Str.ofString "__call__") = pure none from by rw [KBy.special_eq bytes_no_call]) ?_)
  simp only [Option.isSome_none, Bool.false_eq_true, if_false]
  refine wpAny_bind (wpAny_of_eq (show asStr? (.bytes y ur) = pure none from rfl) ?_)
  dsimp only
  refine wpAny_bind (wpAny_of_eq KBy.quiet_eq ?_)
  dsimp only
  refine (Eq.symm hy) ▸ ?_
  refine wpAny_bind (wpAny_pure ?_)
  simp only [Bool.not_false, if_true]
  refine wpAny_bind (wpAny_pure ?_)
  exact sub_again O rfl hS.1 hS.2
end Mine

end

section
open PySem PySem.W PyProof.Rows
namespace Mine
section
variable {prog : Program} {w : World} {g0 : Cx} {mg mb : Loc} {A : Around} {E : Value → Shared → Prop} {s : Shared} {h₀ : Heap} {L : Addr} {m : Loc} {N : Led} {env : Env}
theorem g_sub {p t : Addr} {src fl : Value} {words : Array Value} {kd : Int} {pl : Sem Bool} {Q : Value × List Value → Loc → Led → Prop} (hp : PatAt h₀ p t src fl words kd) (h : Q (.builtin "re.Pattern.sub", [.ref p]) m N) :
    WB g0 A E h₀ L m N (getMethod (.ref p) (Str.ofString "sub") pl) Q :=
  WB.stillR (fun s Q' E' at_ q => by
    have h1 := at_ _ _ (.inl hp.1)
    exact getMethod_builtin (T := "re.Pattern") ⟨_, h1, rfl⟩ plainAttrs_pat slot_pat_sub type_pat_sub (fun a e => by cases e; exact ⟨_, h1, rfl⟩) (q s.toks)) h
theorem c_subS {p t : Addr} {src fl : Value} {words : Array Value} {T : List Nat} {u ur : Tok} {repl : List Nat} {out : Nat → List Nat} {tg : Builtin.Re.ReTarget} {Q : Value → Loc → Led → Prop} (hp : PatAt h₀ p t src fl words 0) (O : SubOk mkS 0 p t src fl words 0 T (mkS T u) (mkS repl ur) repl out tg) (hy : repl.toArray.contains 92 = false)
    (h : ∀ k, Q (mkS (out 0) k) m N) : WB g0 A E h₀ L m N (call (.builtin "re.Pattern.sub") [.ref p, mkS repl ur, mkS T u]) Q := by
  refine WB.wild (R := fun v => ∃ k, v = mkS (out 0) k) (fun s Q' E' at_ q => ?_) fun a ⟨k, e⟩ => e ▸ h k
  have hp' : PatAt s.heap p t src fl words 0 := ⟨at_ _ _ (.inl hp.1), at_ _ _ (.inl hp.2)⟩
  refine call_meets slot_pat_sub ⟨_, hp'.1, rfl⟩ entry_pat_sub (args_pat_sub _ _ _) (meets_subS O hy) ⟨hp', fun s' k kk => ?_⟩
  refine exE2 kk fun h' tk h_0 => anE3 h_0 fun e_1 k1 z1 => ?_
  clear h_0 kk
  subst e_1
  exact q _ h' tk ⟨k, rfl⟩ k1 z1
theorem c_subB {p t : Addr} {src fl : Value} {words : Array Value} {T : List Nat} {u ur : Tok} {repl : List Nat} {out : Nat → List Nat} {tg : Builtin.Re.ReTarget} {Q : Value → Loc → Led → Prop} (hp : PatAt h₀ p t src fl words 1) (O : SubOk mkB 1 p t src fl words 1 T (mkB T u) (mkB repl ur) repl out tg) (hy : (repl.map (·.toUInt8)).toArray.contains 92 = false)
    (h : ∀ k, Q (mkB (out 0) k) m N) : WB g0 A E h₀ L m N (call (.builtin "re.Pattern.sub") [.ref p, mkB repl ur, mkB T u]) Q := by
  refine WB.wild (R := fun v => ∃ k, v = mkB (out 0) k) (fun s Q' E' at_ q => ?_) fun a ⟨k, e⟩ => e ▸ h k
  have hp' : PatAt s.heap p t src fl words 1 := ⟨at_ _ _ (.inl hp.1), at_ _ _ (.inl hp.2)⟩
  refine call_meets slot_pat_sub ⟨_, hp'.1, rfl⟩ entry_pat_sub (args_pat_sub _ _ _) (meets_subB O hy) ⟨hp', fun s' k kk => ?_⟩
  refine exE2 kk fun h' tk h_0 => anE3 h_0 fun e_2 k1 z1 => ?_
  clear h_0 kk
  subst e_2
  exact q _ h' tk ⟨k, rfl⟩ k1 z1
theorem f_fix {T : List Nat} {u : Tok} (O : OkAt mg mb g0 s) (Ro : Room A 1) (hz : T.length ≤ 100000) :
    wpAny (model g0.prog g0.w) A (call (.ref 158) [mkS T u]) (Back g0 s.heap fun v _ => ∃ k, v = mkS (fixE false T) k) E s := by
  refine enter (name := "_fix_eols") (f := 157) (i := 24) (n := 0) (binds := [(Str.ofString "data", mkS T u)]) (by decide) O Ro (fun pm => by rfl) ?_ (by rfl) (by rfl) (by rfl) (by rfl) ?_
  · intro x hx
    simp only [List.mem_cons, List.not_mem_nil, or_false] at hx
    subst hx
    exact k__fix_eols_data
  intro L hL G Rd
  refine WB.cm entry1 ?_
  refine via fun ξ κ=>?_
  obtain ⟨r3, src, fl, p3⟩ := G.re3
  refine κ ?_;clear κ ξ
  refine exE1 G.crlf fun tc ec => ?_
  show WB _ _ _ _ _ _ _ (execs (_ :: []) _) _
  refine ex_ret ?_
  refine e_meth attrBase_name rfl rfl ?_
  refine glob_name G ks__fix_eols k__fix_eols__twin_re_3 r3 ?_
  intro pl
  refine g_sub p3 ?_
  refine call_b1 rfl ?_
  refine args_cons (glob_name G ks__fix_eols k__fix_eols_CRLF ec ?_)
  refine args_cons (e_local ks__fix_eols k__fix_eols_data (v := mkS T u) (by kwd_inv) ?_)
  refine args_nil ?_
  exact c_subS (repl := [13, 10]) p3 (ok_fixS hz) (by decide +kernel) fun k => ⟨k, rfl⟩
theorem f_qp {T : List Nat} {u : Tok} (O : OkAt mg mb g0 s) (Ro : Room A 1) (hT : ∀ c ∈ T, c < 256) (hz : T.length ≤ 100000) :
    wpAny (model g0.prog g0.w) A (call (.ref 151) [mkB T u]) (Back g0 s.heap fun v _ => ∃ k, v = mkB (quo true T) k) E s := by
  refine enter (name := "_quote_periods") (f := 150) (i := 23) (n := 0) (binds := [(Str.ofString "bindata", mkB T u)]) (by decide) O Ro (fun pm => by rfl) ?_ (by rfl) (by rfl) (by rfl) (by rfl) ?_
  · intro x hx
    simp only [List.mem_cons, List.not_mem_nil, or_false] at hx
    subst hx
    exact k__quote_periods_bindata
  intro L hL G Rd
  refine WB.cm entry1 ?_
  refine via fun ξ κ=>?_
  obtain ⟨r2, src, fl, p2⟩ := G.re2
  refine κ ?_;clear κ ξ
  show WB _ _ _ _ _ _ _ (execs (_ :: []) _) _
  refine ex_ret ?_
  refine e_meth attrBase_name rfl rfl ?_
  refine glob_name G ks__quote_periods k__quote_periods__twin_re_2 r2 ?_
  intro pl
  refine g_sub p2 ?_
  refine call_b1 rfl ?_
  refine args_cons (e_bytes fun tb => ?_)
  refine args_cons (e_local ks__quote_periods k__quote_periods_bindata (v := mkB T u) (by kwd_inv) ?_)
  refine args_nil ?_
  exact c_subB (repl := [46, 46]) p2 (ok_quoB hT hz) (by decide +kernel) fun k => ⟨k, rfl⟩
theorem f_quote {T : List Nat} {u : Tok} (O : OkAt mg mb g0 s) (Ro : Room A 1) (hz : T.length ≤ 40000) :
    wpAny (model g0.prog g0.w) A (call (.ref 144) [mkS T u]) (Back g0 s.heap fun v _ => ∃ k, v = mkS (quo true (fixE false T)) k) E s := by
  refine enter (name := "quotedata") (f := 143) (i := 22) (n := 0) (binds := [(Str.ofString "data", mkS T u)]) (by decide) O Ro (fun pm => by rfl) ?_ (by rfl) (by rfl) (by rfl) (by rfl) ?_
  · intro x hx
    simp only [List.mem_cons, List.not_mem_nil, or_false] at hx
    subst hx
    exact k_quotedata_data
  intro L hL G Rd
  refine WB.cm entry1 ?_
  refine via fun ξ κ=>?_
  obtain ⟨r1, src1, fl1, p1⟩ := G.re1
  refine κ ?_;clear κ ξ
  refine via fun ξ κ=>?_
  obtain ⟨r3, src, fl, p3⟩ := G.re3
  refine κ ?_;clear κ ξ
  refine exE1 G.crlf fun tc ec => ?_
  show WB _ _ _ _ _ _ _ (execs (_ :: []) _) _
  refine ex_ret ?_
  refine e_meth attrBase_name rfl rfl ?_
  refine glob_name G ks_quotedata k_quotedata__twin_re_1 r1 ?_
  intro pl
  refine g_sub p1 ?_
  refine call_b1 rfl ?_
  refine args_cons (e_str fun tb => ?_)
  refine args_cons ?_
  refine e_meth attrBase_name rfl rfl ?_
  refine glob_name G ks_quotedata k_quotedata__twin_re_3 r3 ?_
  intro pl3
  refine g_sub p3 ?_
  refine call_b1 rfl ?_
  refine args_cons (glob_name G ks_quotedata k_quotedata_CRLF ec ?_)
  refine args_cons (e_local ks_quotedata k_quotedata_data (v := mkS T u) (by kwd_inv) ?_)
  refine args_nil ?_
  refine c_subS (repl := [13, 10]) p3 (ok_fixS (by omega)) (by decide +kernel) fun k => ?_
  refine args_nil ?_
  have hl := fix_len (T.drop 0) false
  rw [List.length_drop] at hl
  exact c_subS (repl := [46, 46]) p1 (ok_quoS (by omega)) (by decide +kernel) fun k => ⟨k, rfl⟩
end
end Mine

end

section
open PySem PySem.W PyProof.Rows
namespace Mine
open PySem.Spec
theorem str_app (a b : List Nat) : (⟨a.toArray⟩ : Str) ++ ⟨b.toArray⟩ = ⟨(a ++ b).toArray⟩ := by
  apply Str.ext'
  apply Array.toList_inj.mp
  show (a.toArray ++ b.toArray).toList = _
  simp
theorem str_len (a : List Nat) : Str.length ⟨a.toArray⟩ = a.length := by show a.toArray.size = _; simp
section
variable {prog : Program} {w : World} {g0 : Cx} {mg mb : Loc} {A : Around} {E : Value → Shared → Prop} {s : Shared} {h₀ : Heap} {L : Addr} {m : Loc} {N : Led} {env : Env}
theorem e_strS {x : Str} {k : Nat} {pos : Pos} {Q : Value → Loc → Led → Prop} (l : List Nat) (hl : x = ⟨l.toArray⟩) (h : ∀ t, Q (mkS l t) m N) : WB g0 A E h₀ L m N (eval (.Constant (.str x) k pos) env) Q := by
  subst hl; exact e_str h
theorem ss_add {x y : List Nat} {t u : Tok} {Q : Value → Loc → Led → Prop} (hz : x.length + y.length ≤ 1000000) (h : ∀ k, Q (mkS (x ++ y) k) m N) : WB g0 A E h₀ L m N (binaryOp .Add (mkS x t) (mkS y u)) Q := by
  unfold mkS
  refine s_add (by rw [str_len, str_len]; exact hz) fun k => ?_
  rw [str_app]; exact h k
theorem ss_addF {x y : List Nat} {t u : Tok} {Q : Value → Loc → Led → Prop} (hx : x ≠ []) (hy : y ≠ []) (hz : x.length + y.length ≤ 1000000) (h : ∀ k : Nat, flo m ≤ k → 0 < k → Q (mkS (x ++ y) k) (setF m (k + 1)) N) : WB g0 A E h₀ L m N (binaryOp .Add (mkS x t) (mkS y u)) Q := by
  refine WB.tokF (f := fun k => mkS (x ++ y) k) (fun s Q' E' at_ q => ?_) h
  refine P.add_str ?_
  rw [str_len, str_len]
  rw [if_neg (by simpa using hx), if_neg (by simpa using hy), str_app]
  exact ⟨by rw [str_len, List.length_append, sizeLine_eq]; omega, q⟩
theorem beq_toList {x y : List Nat} : ((⟨x.toArray⟩ : Str).cps.toList == (⟨y.toArray⟩ : Str).cps.toList) = (x == y) := by simp
theorem ss_eq {x y : List Nat} {t u : Tok} {Q : Value → Loc → Led → Prop} (h : Q (.bool (x == y)) m N) : WB g0 A E h₀ L m N (compareOp .Eq (mkS x t) (mkS y u)) Q :=
  s_eq (by rw [beq_toList]; exact h)
theorem ss_ne {x y : List Nat} {t u : Tok} {Q : Value → Loc → Led → Prop} (h : Q (.bool (x != y)) m N) : WB g0 A E h₀ L m N (compareOp .NotEq (mkS x t) (mkS y u)) Q :=
  WB.still (a := .bool (x != y)) (fun s Q' E' q => P.ne_str (by
    have : ((⟨x.toArray⟩ : Str).cps.toList != (⟨y.toArray⟩ : Str).cps.toList) = (x != y) := by show (!_) = !_; rw [beq_toList]
    rw [this]; exact q s.toks)) h
theorem txt_mul (n : Nat) (hn : 1 ≤ n) : Txt.mul ⟨#[46]⟩ n = ⟨(List.replicate n 46).toArray⟩ := by
  unfold Txt.mul
  rw [if_neg (by omega)]
  by_cases h1 : n = 1
  · subst h1; rfl
  · rw [if_neg (by simp [Str.length]; omega)]
    rw [Int.toNat_natCast]
    apply Str.ext'
    apply Array.toList_inj.mp
    show (List.foldl (· ++ ·) #[] (List.replicate n #[46])).toList = _
    have : ∀ (k : Nat) (a : Array Nat), ((List.replicate k #[46]).foldl (· ++ ·) a).toList = a.toList ++ List.replicate k 46 := by
      intro k
      induction k with
      | zero => intro a; simp
      | succ k ih => intro a; rw [List.replicate_succ, List.foldl_cons, ih]; simp [List.replicate_succ]
    rw [this]; simp
theorem ss_mul {n : Nat} {t u : Tok} {Q : Value → Loc → Led → Prop} (hn : 1 ≤ n) (hn2 : n ≤ 1000) (h : ∀ k, Q (mkS (List.replicate n 46) k) m N) : WB g0 A E h₀ L m N (binaryOp .Mult (mkS [46] t) (.int n u)) Q :=
  WB.tok (f := fun k => mkS (List.replicate n 46) k) (fun s Q' E' q => SB.mul (mulOk_of 16 1048576 (by rw [str_len]; decide) (by omega) (by omega) (by decide) (by decide)) fun t' k => by
    rw [show (⟨[46].toArray⟩ : Str) = ⟨#[46]⟩ from rfl, txt_mul n hn]; exact q t' k) h
theorem c_max {l : Addr} {lo : Obj} {vs : List Value} {xs : List Int} {Q : Value → Loc → Led → Prop} (hh : A.handled = none) (hl : At h₀ N l lo) (ho : LO lo vs) (hI : Ints vs xs) (hne : 0 < xs.length)
    (h : ∀ M t, M ∈ xs → (∀ a ∈ xs, a ≤ M) → Q (.int M t) m N) : WB g0 A E h₀ L m N (call (.builtin "max") [.ref l]) Q := by
  refine WB.wildK (R := fun v => ∃ M t, v = .int M t ∧ M ∈ xs ∧ ∀ a ∈ xs, a ≤ M) (fun s Q' E' at_ q => ?_) (fun a ⟨M, t, e, h1, h2⟩ => e ▸ h M t h1 h2)
  have hi := ints_are hI
  obtain ⟨ys, e⟩ := hi.allInts.items
  have hns : xs = ys.toList.map (·.1) := by
    rw [← hi.numsOf, ← nums_intItems, ← e]
  have hsz : 0 < ys.size := by
    have h3 := hne; rw [hns, List.length_map, Array.length_toList] at h3; exact h3
  have hl' := ho.isList (at_ _ _ hl)
  rw [e] at hl'
  refine max_intList hh hl' hsz fun v h' tk hv hk => ?_
  obtain ⟨t, rfl⟩ := intItems_at hv
  obtain ⟨h1, h2⟩ := argBest_gt (numAt ys) (ys.size - 1)
  refine q _ h' tk ⟨_, t, rfl, ?_, fun a ha => ?_⟩ hk
  · rw [hns, numAt_eq]; exact getD_mem (by rw [List.length_map, Array.length_toList]; omega)
  · rw [hns] at ha
    refine exE1 (mem_getD ha) fun j h_0 => anE2 h_0 fun hj eq_0 => ?_
    clear h_0
    subst eq_0
    rw [List.length_map, Array.length_toList] at hj
    rw [← numAt_eq]; exact h2 j (by omega)
theorem WB.allocG {t : Sem Value} {R : Obj → Prop} {Q : Value → Loc → Led → Prop}
    (lem : ∀ s (Q' : Value → Shared → Prop) E', (∀ a o, At h₀ N a o → s.heap.get? a = some o) → (∀ a o h' tk, R o → h'.get? a = some o → s.heap.objs.size ≤ a → (∀ b o, s.heap.get? b = some o → h'.get? b = some o) → Q' (.ref a) { s with heap := h', toks := tk }) → wpAny (model g0.prog g0.w) A t Q' E' s)
    (h : ∀ a o, R o → Fresh h₀ L N a → Q (.ref a) m ((a, o) :: N)) : WB g0 A E h₀ L m N t Q :=
  ⟨fun s I => wpAny_ts (lem s _ _ (fun _ _ x => I.at x) fun a o h' tk r g z k ht sz => by
    refine ⟨m, (a, o) :: N, I.add (M := [(a, o)]) k (fun p hp => ?_) (by simp) tk ht, ⟨fun b o' e _ _ _ => k b o' e, fun p hp => ?_, sz⟩,
      h _ _ r ⟨Nat.le_trans (Nat.le_trans I.fr.above (Nat.le_of_lt I.fr.ns.lt)) z, Nat.lt_of_lt_of_le I.fr.ns.lt z, fun p hp => Nat.lt_of_lt_of_le (Heap.lt_size (I.led p hp).1) z⟩⟩
    · rw [List.mem_singleton.mp hp]; exact ⟨g, z⟩
    · rcases List.mem_cons.mp hp with rfl | hp
      · exact .inr z
      · exact .inl (List.mem_map_of_mem hp))⟩
noncomputable abbrev txV (ps : List (List Nat × Tok)) : List Value := ps.map fun q => mkS q.1 q.2
theorem strsAre_tx : ∀ ps : List (List Nat × Tok), StrsAre (txV ps) (ps.map fun q => (⟨q.1.toArray⟩ : Str))
  | [] => .nil
  | q :: r => .cons _ _ (strsAre_tx r)
theorem c_sortS {l : Addr} {lo : Obj} {ps : List (List Nat × Tok)} {Q : Value → Loc → Led → Prop} (hl : At h₀ N l lo) (ho : LO lo (txV ps)) (h64 : ps.length < 64)
    (h : ∀ r ro ps', Fresh h₀ L N r → LX ro (txV ps') → ps'.Perm ps → ps'.Pairwise (fun a b => ltCps b.1 a.1 = false) → Q (.ref r) m ((r, ro) :: N)) : WB g0 A E h₀ L m N (call (.builtin "sorted") [.ref l]) Q := by
  refine WB.allocG (R := fun o => ∃ ps' : List (List Nat × Tok), LX o (txV ps') ∧ ps'.Perm ps ∧ ps'.Pairwise (fun a b => ltCps b.1 a.1 = false)) (fun s Q' E' at_ q => ?_) fun a o ⟨ps', h1, h2, h3⟩ f => h a o ps' f h1 h2 h3
  have hl' := ho.isList (at_ _ _ hl)
  have hS := strsAre_tx ps
  refine sortedK strKind_oneLt hl' hS.keysOf (fun v₁ v₂ rest e => keyKind_strs (by rw [← e]; exact hS)) (by simpa using h64) fun st' hp hs => ?_
  obtain ⟨e, he⟩ := sortedAll_at s.heap (txV ps) ((arrOf st').map (·.2))
  have hl2 : (arrOf st').toList.Perm ((txV ps).zip (txV ps)) := by rw [← pairsOf_toList]; exact Array.perm_iff_toList_perm.mp hp
  have hmem : ∀ p, p ∈ (arrOf st').toList → p.1 = p.2 ∧ p.1 ∈ txV ps := fun p hp' => mem_zip_self (hl2.mem_iff.mp hp')
  have hperm : ((arrOf st').toList.map (·.2)).Perm (txV ps) := by
    have h1 := hl2.map (fun p => p.2)
    rwa [List.map_snd_zip (Nat.le_refl _)] at h1
  let back : Value → List Nat × Tok := fun v => match v with | .str x t => (x.cps.toList, t) | _ => ([], 0)
  have hb : ∀ v ∈ txV ps, mkS (back v).1 (back v).2 = v := by
    intro v hv
    refine exE1 (List.mem_map.mp hv) fun q h_0 => anE2 h_0 fun _ eq_0 => ?_
    clear h_0
    subst eq_0
    simp [back, mkS]
  refine q _ _ _ s.toks ⟨((arrOf st').toList.map (·.2)).map back, ⟨e, ?_⟩, ?_, ?_⟩ he (Nat.le_succ _) (fun b o eb => sortedAll_old eb)
  · have : txV (((arrOf st').toList.map (·.2)).map back) = (arrOf st').toList.map (·.2) := by
      show List.map _ _ = _
      rw [List.map_map]
      conv => rhs; rw [← List.map_id ((arrOf st').toList.map (·.2))]
      exact List.map_congr_left fun v hv => hb v (hperm.mem_iff.mp hv)
    rw [this]
    simp [seqObj]
    apply Array.toList_inj.mp
    simp
  · have h1 := hperm.map back
    have h2 : (txV ps).map back = ps := by
      show List.map back (List.map _ ps) = ps
      rw [List.map_map]
      conv => rhs; rw [← List.map_id ps]
      refine List.map_congr_left fun q _ => ?_
      simp [back, mkS]
    rwa [h2] at h1
  · rw [List.pairwise_iff_getElem]
    intro i j hi hj hij
    have hi' : i < (arrOf st').size := by simpa using hi
    have hj' : j < (arrOf st').size := by simpa using hj
    have h1 := hs i j (Nat.le_of_lt hij) (by rw [← hp.size_eq]; exact hj')
    refine exE2 (hS.all _ (hmem (arrOf st')[i] (by simp)).2) fun x t ex => ?_
    refine exE2 (hS.all _ (hmem (arrOf st')[j] (by simp)).2) fun y u ey => ?_
    have ex2 := (hmem (arrOf st')[i] (by simp)).1
    have ey2 := (hmem (arrOf st')[j] (by simp)).1
    rw [KK_str hi' (x := x) (t := t) (q := (arrOf st')[i].2) (Prod.ext ex rfl), KK_str hj' (x := y) (t := u) (q := (arrOf st')[j].2) (Prod.ext ey rfl)] at h1
    change decide (y.cps.toList < x.cps.toList) = false at h1
    simp only [List.getElem_map, Array.getElem_toList]
    rw [← ex2, ← ey2, ex, ey, ltCps_eq]
    exact h1
end
end Mine

end

section
open PySem PySem.W PyProof.Rows
namespace Mine
open PySem.Builtin PySem.Builtin._codecs
theorem enc_tree2 (x : Str) (t u : Tok) : «str.encode» ⟨[.str x t, .str (Str.ofString "utf-8") u], []⟩ = (do ret (← encodeRoad "str.encode" (.str x t) x (Str.ofString "utf-8") none)) := by kernel_rfl
noncomputable def u8 (T : List Nat) : List UInt8 := (T.map Str.utf8Of).flatten
theorem utf8_len (c : Nat) : 1 ≤ (Str.utf8Of c).length ∧ (Str.utf8Of c).length ≤ 4 := by
  unfold Str.utf8Of
  split
  · simp
  · split
    · simp
    · split <;> simp
theorem u8_len : ∀ T : List Nat, T.length ≤ (u8 T).length ∧ (u8 T).length ≤ 4 * T.length
  | [] => by simp [u8]
  | c :: r => by
    have h1 := utf8_len c
    have h2 := u8_len r
    unfold u8 at h2 ⊢
    rw [List.map_cons, List.flatten_cons, List.length_append, List.length_cons]
    omega (splitDisjunctions := true)
namespace hnarrow_ok
noncomputable def st_ (M : PySem.Model) (A : PySem.Around) (E : PySem.Value → PySem.Shared → Prop) (s : PySem.Shared) (id : String) (self : PySem.Value) (Q : Array UInt8 → PySem.Shared → Prop) : Prop := ∀ {T : List Nat} (hT : ∀ c ∈ T, Str.isSurrogate c = false) (hz : T.length ≤ 100000) (h : Q (u8 T).toArray s), wpAny M A (encodeNarrow id utf8Codec none self ⟨T.toArray⟩) Q E s
noncomputable abbrev T_ := ((PySem.Model × (PySem.Around × (PySem.Value → PySem.Shared → Prop))) × ((PySem.Shared × String) × (PySem.Value × (Array UInt8 → PySem.Shared → Prop))))
theorem ne_ : Nonempty T_ := ⟨by repeat' (first | apply Prod.mk | exact default | exact nAr | exact nCx | exact nSh | constructor)⟩
noncomputable def Q_ (p : T_) : Prop := st_ p.1.1 p.1.2.1 p.1.2.2 p.2.1.1 p.2.1.2 p.2.2.1 p.2.2.2
noncomputable def w_ : T_ := @Classical.epsilon _ ne_ fun p => ¬ Q_ p
noncomputable def s := w_.2.1.1
theorem main_ : st_ w_.1.1 w_.1.2.1 w_.1.2.2 s w_.2.1.2 w_.2.2.1 w_.2.2.2 := by
  intro T hT hz h
  unfold encodeNarrow
  dsimp only
  rw [Std.Legacy.Range.forIn_eq_forIn_range']
  have hl := u8_len T
  refine wpAny_bind (wpAny_forIn_list _ (fun l b s' => s' = s ∧ ((b.1 = 0 ∧ b.2.1 = #[] ∧ (l = [] → T = [])) ∨ (b.1 = T.length ∧ b.2.1 = (u8 T).toArray))) _ ?_ ?_ _ _ ?_)
  · rintro x rest ⟨i, out, st⟩ s' ⟨rfl, hI⟩
    dsimp only at hI ⊢
    have hz2 : ¬ out.size > sizeLine := by
      rcases hI with ⟨_, rfl, _⟩ | ⟨_, rfl⟩
      · exact Nat.not_lt_zero _
      · rw [List.size_toArray, sizeLine_eq]; omega (splitDisjunctions := true)
    rw [if_neg hz2]
    rcases hI with ⟨rfl, rfl, _⟩ | ⟨rfl, rfl⟩
    · cases T with
      | nil => exact wpAny_pure (wpAny_pure h)
      | cons c r =>
        have hb : ∀ x ∈ c :: r, utf8Codec.bad x = false := fun x hx => by show Str.isSurrogate x = false; exact hT x hx
        have e0 : (c :: r).toArray[0]? = some c := by simp
        rw [e0]
        dsimp only
        rw [hb c (.head _), if_pos (by decide)]
        have e1 : (c :: r).toArray.extract 0 = (c :: r).toArray := by simp
        have e2 : Array.findIdx? utf8Codec.bad (c :: r).toArray = none := by
          rw [Array.findIdx?_eq_none_iff]
          intro x hx
          exact hb x (by simpa using hx)
        rw [e1, e2, Option.getD_none]
        have e3 : (c :: r).toArray.extract 0 (c :: r).toArray.size = (c :: r).toArray := by simp
        rw [e3]
        refine wpAny_pure ⟨rfl, .inr ⟨by simp, ?_⟩⟩
        have : ∀ (l : List Nat) (a : Array UInt8), l.foldl (fun acc y => acc ++ (utf8Codec.bytesOf y).toArray) a = a ++ (u8 l).toArray := by
          intro l
          induction l with
          | nil => intro a; simp [u8]
          | cons x l ih =>
            intro a
            rw [List.foldl_cons, ih]
            apply Array.toList_inj.mp
            show (a ++ (Str.utf8Of x).toArray ++ (u8 l).toArray).toList = _
            simp [u8]
        dsimp only
        rw [← Array.foldl_toList]
        show List.foldl _ _ (c :: r) = _
        rw [this]; simp
    · have e0 : T.toArray[T.length]? = none := by simp
      rw [e0]
      exact wpAny_pure (wpAny_pure h)
  · rintro ⟨i, out, st⟩ s' ⟨rfl, hI⟩
    dsimp only at hI ⊢
    refine wpAny_pure ?_
    rcases hI with ⟨_, rfl, e⟩ | ⟨_, rfl⟩
    · rw [e rfl] at h; exact h
    · exact h
  · refine ⟨rfl, .inl ⟨rfl, rfl, fun e => ?_⟩⟩
    have := congrArg List.length e
    simp [Std.Legacy.Range.size, str_len] at this
    exact this
end hnarrow_ok
theorem narrow_ok {M A E s id self Q} : hnarrow_ok.st_ M A E s id self Q := Mine.hk hnarrow_ok.ne_ (P := hnarrow_ok.Q_) hnarrow_ok.main_ ((M, (A, E)), ((s, id), (self, Q)))
theorem u8_byte {n : Nat} (h : n < 256) : (n.toUInt8).toNat = n := by
  show (UInt8.ofNat n).toNat = n
  rw [UInt8.toNat_ofNat']; omega (splitDisjunctions := true)
namespace hdec_at
noncomputable def st_ (B : List UInt8) (p c : Nat) (rest : List UInt8) : Prop := ∀ (hd : B.drop p = Str.utf8Of c ++ rest) (hc : c < 55296), Bytes.utf8At B.toArray p = (.char c, p + (Str.utf8Of c).length)
noncomputable abbrev T_ := (((List UInt8) × Nat) × (Nat × (List UInt8)))
theorem ne_ : Nonempty T_ := ⟨by repeat' (first | apply Prod.mk | exact default | exact nAr | exact nCx | exact nSh | constructor)⟩
noncomputable def Q_ (p : T_) : Prop := st_ p.1.1 p.1.2 p.2.1 p.2.2
noncomputable def w_ : T_ := @Classical.epsilon _ ne_ fun p => ¬ Q_ p
noncomputable def B := w_.1.1
noncomputable def p := w_.1.2
noncomputable def c := w_.2.1
noncomputable def rest := w_.2.2
theorem main_ : st_ B p c rest := by
  intro hd hc
  have g0 : ∀ k, B.toArray[p + k]? = (Str.utf8Of c ++ rest)[k]? := by
    intro k; rw [← hd]; simp
  have g1 : B.toArray.getD p 0 = (Str.utf8Of c ++ rest)[0]?.getD 0 := by
    rw [← g0 0]; simp
  unfold Bytes.utf8At
  rw [g1]
  unfold Str.utf8Of at g0 ⊢
  by_cases h1 : c < 0x80
  · simp only [if_pos h1] at g0 ⊢
    have e : (([c.toUInt8] ++ rest)[0]?.getD 0).toNat = c := by simp [u8_byte (show c < 256 by omega (splitDisjunctions := true))]
    rw [e, if_pos h1]; rfl
  · rw [if_neg h1] at g0 ⊢
    by_cases h2 : c < 0x800
    · rw [if_pos h2] at g0 ⊢
      have e : (([(0xC0 + c / 64).toUInt8, (0x80 + c % 64).toUInt8] ++ rest)[0]?.getD 0).toNat = 0xC0 + c / 64 := by
        rw [show ([(0xC0 + c / 64).toUInt8, (0x80 + c % 64).toUInt8] ++ rest)[0]?.getD 0 = (0xC0 + c / 64).toUInt8 from rfl]
        exact u8_byte (by omega (splitDisjunctions := true))
      have b1 := g0 1
      rw [show ([(0xC0 + c / 64).toUInt8, (0x80 + c % 64).toUInt8] ++ rest)[1]? = some (0x80 + c % 64).toUInt8 from rfl] at b1
      have n1 : ((0x80 + c % 64).toUInt8).toNat = 0x80 + c % 64 := u8_byte (by omega (splitDisjunctions := true))
      rw [e]
      have s1 : (decide (0xC2 ≤ 0xC0 + c / 64) && decide (0xC0 + c / 64 ≤ 0xDF)) = true := by simp; omega (splitDisjunctions := true)
      simp only [if_neg (show ¬ (0xC0 + c / 64 < 0x80) by omega (splitDisjunctions := true)), s1, if_true, show List.range 1 = [0] from rfl, List.map_cons, List.map_nil, List.foldl_cons, List.foldl_nil, Nat.zero_add, Except.bind, b1, n1]
      have s2 : (decide ((if (1 == 1) = true then 0x80 else 0x80) ≤ 0x80 + c % 64) && decide (0x80 + c % 64 ≤ (if (1 == 1) = true then 0xBF else 0xBF))) = true := by simp; omega (splitDisjunctions := true)
      simp only [show (1 == 1) = true from rfl, if_true] at s2 ⊢
      rw [if_pos (by simpa using s2)]
      simp only [List.length_cons, List.length_nil]
      have : (192 + c / 64) % 32 * 64 + (128 + c % 64) % 64 = c := by omega (splitDisjunctions := true)
      rw [this]
    · rw [if_neg h2] at g0 ⊢
      rw [if_pos (show c < 0x10000 by omega (splitDisjunctions := true))] at g0 ⊢
      have e : (([(0xE0 + c / 4096).toUInt8, (0x80 + c / 64 % 64).toUInt8, (0x80 + c % 64).toUInt8] ++ rest)[0]?.getD 0).toNat = 0xE0 + c / 4096 := by
        rw [show ([(0xE0 + c / 4096).toUInt8, (0x80 + c / 64 % 64).toUInt8, (0x80 + c % 64).toUInt8] ++ rest)[0]?.getD 0 = (0xE0 + c / 4096).toUInt8 from rfl]
        exact u8_byte (by omega (splitDisjunctions := true))
      have b1 := g0 1
      rw [show ([(0xE0 + c / 4096).toUInt8, (0x80 + c / 64 % 64).toUInt8, (0x80 + c % 64).toUInt8] ++ rest)[1]? = some (0x80 + c / 64 % 64).toUInt8 from rfl] at b1
      have b2 := g0 2
      rw [show ([(0xE0 + c / 4096).toUInt8, (0x80 + c / 64 % 64).toUInt8, (0x80 + c % 64).toUInt8] ++ rest)[2]? = some (0x80 + c % 64).toUInt8 from rfl] at b2
      have n1 : ((0x80 + c / 64 % 64).toUInt8).toNat = 0x80 + c / 64 % 64 := u8_byte (by omega (splitDisjunctions := true))
      have n2 : ((0x80 + c % 64).toUInt8).toNat = 0x80 + c % 64 := u8_byte (by omega (splitDisjunctions := true))
      rw [e]
      simp only [if_neg (show ¬ (0xE0 + c / 4096 < 0x80) by omega (splitDisjunctions := true))]
      have key : ∃ lo hi, (if (decide (0xC2 ≤ 0xE0 + c / 4096) && decide (0xE0 + c / 4096 ≤ 0xDF)) = true then some (1, 0x80, 0xBF)
          else if (0xE0 + c / 4096 == 0xE0) = true then some (2, 0xA0, 0xBF)
          else if (0xE0 + c / 4096 == 0xED) = true then some (2, 0x80, 0x9F)
          else if (decide (0xE1 ≤ 0xE0 + c / 4096) && decide (0xE0 + c / 4096 ≤ 0xEF)) = true then some (2, 0x80, 0xBF)
          else if (0xE0 + c / 4096 == 0xF0) = true then some (3, 0x90, 0xBF)
          else if (decide (0xF1 ≤ 0xE0 + c / 4096) && decide (0xE0 + c / 4096 ≤ 0xF3)) = true then some (3, 0x80, 0xBF)
          else if (0xE0 + c / 4096 == 0xF4) = true then some (3, 0x80, 0x8F)
          else none : Option (Nat × Nat × Nat)) = some (2, lo, hi) ∧ lo ≤ 0x80 + c / 64 % 64 ∧ 0x80 + c / 64 % 64 ≤ hi := by
        rw [if_neg (by simp; omega (splitDisjunctions := true))]
        by_cases q1 : c / 4096 = 0
        · rw [if_pos (by simp [q1])]; exact ⟨_, _, rfl, by omega (splitDisjunctions := true), by omega (splitDisjunctions := true)⟩
        · rw [if_neg (by simp; omega (splitDisjunctions := true))]
          by_cases q2 : c / 4096 = 13
          · rw [if_pos (by simp [q2])]; exact ⟨_, _, rfl, by omega (splitDisjunctions := true), by omega (splitDisjunctions := true)⟩
          · rw [if_neg (by simp; omega (splitDisjunctions := true)), if_pos (by simp; omega (splitDisjunctions := true))]; exact ⟨_, _, rfl, by omega (splitDisjunctions := true), by omega (splitDisjunctions := true)⟩
      obtain ⟨lo, hi, ek, k1, k2⟩ := key
      rw [ek]
      simp only [show List.range 2 = [0, 1] from rfl, List.map_cons, List.map_nil, List.foldl_cons, List.foldl_nil, Nat.zero_add, Except.bind, b1, n1, show (1 == 1) = true from rfl, show (1 + 1 == 1) = false from rfl, show (2 == 1) = false from rfl, show (2 == 2) = true from rfl, if_true, Bool.false_eq_true, if_false, show (1 + 1 : Nat) = 2 from rfl]
      rw [if_pos (by simp; exact ⟨k1, k2⟩)]
      simp only [b2, n2]
      rw [if_pos (by simp; omega (splitDisjunctions := true))]
      simp only [List.length_cons, List.length_nil]
      have : ((224 + c / 4096) % 16 * 64 + (128 + c / 64 % 64) % 64) * 64 + (128 + c % 64) % 64 = c := by omega (splitDisjunctions := true)
      rw [this]
end hdec_at
theorem dec_at {B p c rest} : hdec_at.st_ B p c rest := Mine.hk hdec_at.ne_ (P := hdec_at.Q_) hdec_at.main_ ((B, p), (c, rest))
end Mine

end

section
open PySem PySem.W PyProof.Rows
namespace Mine
open PySem.Builtin PySem.Builtin._codecs
theorem for_dec {F : Type} {B : List UInt8} {f : Nat → (Nat × Array Nat × F) → Sem (ForInStep (Nat × Array Nat × F))} (st : F)
    (h1 : ∀ x p out, out.size ≤ 100000 → B.length ≤ p → f x (p, out, st) = pure (.done (p, out, st)))
    (h2 : ∀ x p out c rest, out.size ≤ 100000 → B.drop p = Str.utf8Of c ++ rest → c < 55296 → f x (p, out, st) = pure (.yield (p + (Str.utf8Of c).length, out ++ #[c], st))) :
    ∀ (R : List Nat) (l : List Nat) (p : Nat) (out : Array Nat), (∀ c ∈ R, c < 55296) → B.drop p = u8 R → p + (u8 R).length = B.length → R.length ≤ l.length → out.size + R.length ≤ 100000 →
      forIn l (p, out, st) f = (pure (B.length, out ++ R.toArray, st) : Sem _) := by
  intro R
  induction R with
  | nil =>
    intro l p out _ hd hp hl hz
    have hp' : p = B.length := by simpa [u8] using hp
    subst hp'
    cases l with
    | nil => rw [List.forIn_nil]; simp
    | cons x l => rw [List.forIn_cons, h1 x _ _ (by simpa using hz) (Nat.le_refl _), pure_bind]; simp
  | cons c R ih =>
    intro l p out hR hd hp hl hz
    cases l with
    | nil => simp at hl
    | cons x l =>
      have e : u8 (c :: R) = Str.utf8Of c ++ u8 R := by simp [u8]
      rw [e] at hd hp
      rw [List.length_append] at hp
      rw [List.length_cons] at hz hl
      rw [List.forIn_cons, h2 x p out c _ (by omega) hd (hR c (.head _)), pure_bind]
      dsimp only
      rw [List.length_cons] at hl
      rw [ih l _ _ (fun c' h => hR c' (.tail _ h)) ?_ (by omega) (by omega) (by simp; omega)]
      · simp
      · rw [← List.drop_drop, hd, List.drop_left]
theorem run_eq {id : String} {T : List Nat} (hT : ∀ c ∈ T, c < 55296) (hz : T.length ≤ 100000) : runDecoder id utf8Decoder none true (u8 T).toArray 0 [] = pure ((⟨T.toArray⟩ : Str).cps, (u8 T).length) := by
  unfold runDecoder
  dsimp only
  rw [Std.Legacy.Range.forIn_eq_forIn_range']
  have hl := u8_len T
  have hsz : ∀ out : Array Nat, out.size ≤ 100000 → ¬ out.size > sizeLine := fun out h => by rw [sizeLine_eq]; omega
  rw [for_dec (B := u8 T) ({} : Faults) ?_ ?_ T _ 0 #[] hT (by simp) (by simp) ?_ (by simpa using hz), pure_bind]
  · simp
  · intro x p out ho hp
    dsimp only
    rw [if_neg (hsz out ho), if_pos (by simpa using hp)]
  · intro x p out c rest ho hd hc
    dsimp only
    have hlt : ¬ p ≥ (u8 T).toArray.size := by
      intro hge
      rw [List.size_toArray] at hge
      rw [List.drop_eq_nil_of_le hge] at hd
      have := (utf8_len c).1
      have h0 := congrArg List.length hd
      rw [List.length_append, List.length_nil] at h0; omega
    rw [if_neg (hsz out ho), if_neg hlt]
    have hf : utf8Decoder.find true (u8 T).toArray p = .text [c] (p + (Str.utf8Of c).length) := by
      unfold utf8Decoder
      dsimp only
      rw [dec_at hd hc]; rfl
    rw [hf]
  · simp [Std.Legacy.Range.size]; exact hl.1
theorem dec_tree2 {c : UInt8} {cs : List UInt8} {t u : Tok} : «bytes.decode» ⟨[.bytes (c :: cs).toArray t, .str (Str.ofString "utf-8") u], []⟩ = (mkStr (Str.ofString "utf-8") >>= fun _ => mkStr (Str.ofString "utf-8") >>= fun e => mkStr (Str.ofString "bytes.decode") >>= fun d =>
    call (.builtin "_codecs.decode.text") [.bytes (c :: cs).toArray t, e, .none, d] >>= fun v => ret v) := by kernel_rfl
noncomputable def octs (T : List Nat) : List Nat := (u8 T).map (·.toNat)
theorem octs_lt (T : List Nat) : ∀ c ∈ octs T, c < 256 := by
  intro c hc
  obtain ⟨b, _, rfl⟩ := List.mem_map.mp hc
  exact b.toNat_lt
theorem octs_len (T : List Nat) : (octs T).length ≤ 4 * T.length := by
  unfold octs; rw [List.length_map]; exact (u8_len T).2
theorem octs_back (T : List Nat) : (octs T).map (·.toUInt8) = u8 T := by
  unfold octs
  rw [List.map_map]
  conv => rhs; rw [← List.map_id (u8 T)]
  refine List.map_congr_left fun b _ => ?_
  show UInt8.ofNat b.toNat = b
  simp
theorem mkB_octs (T : List Nat) (k : Tok) : mkB (octs T) k = .bytes (u8 T).toArray k := by unfold mkB; rw [octs_back]
theorem meets_dec2 {T : List Nat} {c : UInt8} {cs : List UInt8} {t u : Tok} (hb : u8 T = c :: cs) (hT : ∀ c ∈ T, c < 55296) (hz : T.length ≤ 100000) :
    Meets («bytes.decode» ⟨[.bytes (c :: cs).toArray t, .str (Str.ofString "utf-8") u], []⟩) (fun _ R s => ∀ t' k, R (.ok (.ret (mkS T t'))) { s with toks := k }) := by
  refine .of_wp fun prog w A R s h => ?_
  rw [dec_tree2]
  refine wpAny_bind (wpAny_mkStr ?_ (by decide))
  refine wpAny_bind (wpAny_mkStr ?_ (by decide))
  refine wpAny_bind (wpAny_mkStr ?_ (by decide))
  refine wpAny_bind (call_function_meets KBd.kind_text KBd.plain_text KBd.entry_text (KBd.args_text _ _ _ _) (KBd.meets_text (x := ⟨T.toArray⟩) (n := (u8 T).length) (fun id => by rw [← hb]; exact run_eq hT hz)) ⟨by rw [str_len, sizeLine_eq]; omega, wpAny_pure ⟨_, rfl, h _ _⟩⟩)
section
variable {prog : Program} {w : World} {g0 : Cx} {A : Around} {E : Value → Shared → Prop} {h₀ : Heap} {L : Addr} {m : Loc} {N : Led}
theorem g_dec {T : List Nat} {t : Tok} {pl : Sem Bool} {Q : Value × List Value → Loc → Led → Prop} (h : Q (.builtin "bytes.decode", [mkB T t]) m N) : WB g0 A E h₀ L m N (getMethod (mkB T t) (Str.ofString "decode") pl) Q :=
  WB.still (a := (.builtin "bytes.decode", [mkB T t])) (fun s Q' E' q => KBd.method (q s.toks)) h
theorem c_dec {T : List Nat} {t u : Tok} {Q : Value → Loc → Led → Prop} (hne : T ≠ []) (hT : ∀ c ∈ T, c < 55296) (hz : T.length ≤ 100000) (h : ∀ k, Q (mkS T k) m N) :
    WB g0 A E h₀ L m N (call (.builtin "bytes.decode") [mkB (octs T) t, .str (Str.ofString "utf-8") u]) Q := by
  refine WB.tok (f := fun k => mkS T k) (fun s Q' E' q => ?_) h
  rw [mkB_octs]
  cases hb : u8 T with
  | nil =>
    have := (u8_len T).1
    rw [hb] at this
    cases T with
    | nil => exact absurd rfl hne
    | cons _ _ => simp at this
  | cons c cs => exact call_meets FB.slot_bytes_decode (typeIs_bytes _ _ _) FB.entry_bytes_decode (args_bytes_decode_2 _ _) (meets_dec2 hb hT hz) fun t' k => q t' k
theorem g_enc {T : List Nat} {t : Tok} {pl : Sem Bool} {Q : Value × List Value → Loc → Led → Prop} (h : Q (.builtin "str.encode", [mkS T t]) m N) : WB g0 A E h₀ L m N (getMethod (mkS T t) (Str.ofString "encode") pl) Q :=
  WB.still (a := (.builtin "str.encode", [mkS T t])) (fun s Q' E' q => GM.of (.str ⟨T.toArray⟩ t) (typeIs_str _ _ _) PySem.F.slot_str_encode PySem.F.type_str_encode GM.noRef (q s.toks)) h
theorem c_enc {T : List Nat} {t u : Tok} {Q : Value → Loc → Led → Prop} (hT : ∀ c ∈ T, c < 55296) (hz : T.length ≤ 100000) (h : ∀ k, Q (mkB (octs T) k) m N) :
    WB g0 A E h₀ L m N (call (.builtin "str.encode") [mkS T t, .str (Str.ofString "utf-8") u]) Q := by
  refine WB.tok (f := fun k => mkB (octs T) k) (fun s Q' E' q => ?_) h
  refine call_meets (S := fun _ R s => ∀ t' k, R (.ok (.ret (mkB (octs T) t'))) { s with toks := k }) PySem.F.slot_str_encode (typeIs_str _ _ _) PySem.F.entry_str_encode (PySem.F.args_str_encode_2 _ _) (.of_wp fun prog w A R s h => ?_) fun t' k => q t' k
  unfold mkS
  rw [enc_tree2, encodeRoad_utf8]
  have hl := u8_len T
  refine wpAny_bind (wpAny_bind (narrow_ok (fun c hc => ?_) hz ?_))
  · have := hT c hc
    unfold Str.isSurrogate
    simp; omega
  · refine wpAny_mkBytes (wpAny_pure ⟨_, rfl, ?_⟩) (by rw [List.size_toArray, sizeLine_eq]; omega)
    have := h s.toks (s.toks + 1)
    rw [mkB_octs] at this
    exact this
end
theorem quo_app : ∀ (l r : List Nat) (b : Bool), (∀ c ∈ l, c ≠ 46) → quo b (l ++ r) = l ++ quo (match l.getLast? with | none => b | some c => c == 10) r
  | [], r, b, _ => rfl
  | c :: l, r, b, h => by
    have h0 := h c (.head _)
    rw [List.cons_append, quo]
    rw [show (b && c == 46) = false by rw [show (c == 46) = false by simpa using h0]; simp]
    rw [quo_app l r _ (fun x hx => h x (.tail _ hx))]
    cases l with
    | nil => rfl
    | cons d l =>
      rw [List.getLast?_cons_cons]
      cases hx : (d :: l).getLast? with
      | none => simp at hx
      | some x => rfl
theorem oct1 {c : Nat} (hc : c < 55296) : (c < 128 ∧ (Str.utf8Of c).map (·.toNat) = [c]) ∨ (128 ≤ c ∧ ∃ l x, (Str.utf8Of c).map (·.toNat) = l ++ [x] ∧ 128 ≤ x ∧ ∀ y ∈ l, 128 ≤ y) := by
  unfold Str.utf8Of
  by_cases h1 : c < 0x80
  · rw [if_pos h1]; exact .inl ⟨by omega, by simp [u8_byte (show c < 256 by omega)]⟩
  · rw [if_neg h1]
    refine .inr ⟨by omega, ?_⟩
    by_cases h2 : c < 0x800
    · rw [if_pos h2]
      refine ⟨[(0xC0 + c / 64)], 0x80 + c % 64, ?_, by omega, ?_⟩
      · simp only [List.map_cons, List.map_nil, u8_byte (show 0xC0 + c / 64 < 256 by omega), u8_byte (show 0x80 + c % 64 < 256 by omega)]; rfl
      · intro y hy; rw [List.mem_singleton.mp hy]; omega
    · rw [if_neg h2, if_pos (show c < 0x10000 by omega)]
      refine ⟨[0xE0 + c / 4096, 0x80 + c / 64 % 64], 0x80 + c % 64, ?_, by omega, ?_⟩
      · simp only [List.map_cons, List.map_nil, u8_byte (show 0xE0 + c / 4096 < 256 by omega), u8_byte (show 0x80 + c / 64 % 64 < 256 by omega), u8_byte (show 0x80 + c % 64 < 256 by omega)]; rfl
      · intro y hy
        simp only [List.mem_cons, List.not_mem_nil, or_false] at hy
        omega
theorem octs_cons (c : Nat) (T : List Nat) : octs (c :: T) = (Str.utf8Of c).map (·.toNat) ++ octs T := by simp [octs, u8]
theorem octs_app : ∀ (a b : List Nat), octs (a ++ b) = octs a ++ octs b := by intro a b; simp [octs, u8]
theorem octs_quo : ∀ (T : List Nat) (b : Bool), (∀ c ∈ T, c < 55296) → quo b (octs T) = octs (quo b T)
  | [], b, _ => rfl
  | c :: T, b, h => by
    rw [octs_cons, quo, octs_app]
    have ih := fun b => octs_quo T b fun x hx => h x (.tail _ hx)
    rcases oct1 (h c (.head _)) with ⟨h1, e⟩ | ⟨h1, l, x, e, hx, hl⟩
    · rw [e, List.singleton_append, quo, ih]
      congr 1
      split
      · rfl
      · rw [octs_cons, e]; rfl
    · rw [e, quo_app _ _ _ (by
        intro y hy
        rcases List.mem_append.mp hy with hy | hy
        · have := hl y hy; omega
        · rw [List.mem_singleton.mp hy]; omega)]
      rw [List.getLast?_append, List.getLast?_singleton]
      dsimp only [Option.or]
      rw [ih]
      have e1 : (x == 10) = (c == 10) := by
        rw [show (x == 10) = false by simp; omega, show (c == 10) = false by simp; omega]
      rw [e1]
      congr 1
      rw [show (b && c == 46) = false by rw [show (c == 46) = false by simp; omega]; simp]
      rw [if_neg (by decide), octs_cons, e]
      show _ = _ ++ []
      simp
end Mine

end

section
open PySem PySem.W PyProof.Rows
namespace Mine
open PySem.Builtin PySem.Builtin.Str
noncomputable def crlf : List (List Nat) → List Nat
  | [] => []
  | [l] => l
  | l :: r => l ++ (13 :: 10 :: crlf r)
noncomputable abbrev toStr (l : List Nat) : Str := ⟨l.toArray⟩
theorem at_iff (l : List Nat) (i : Nat) : StrLaws.At (toStr l) (toStr [13, 10]) l.length i ↔ (l.drop i).take 2 = [13, 10] := by
  unfold StrLaws.At
  rw [StrLaws.subAt_eq]
  rw [str_len]
  simp only [beq_iff_eq]
  constructor
  · intro h; exact h.2
  · intro h
    refine ⟨?_, h⟩
    have := congrArg List.length h
    simp at this
    show i + 2 ≤ _; omega
theorem split_parts : ∀ (due : List (List Nat)) (pre : List Nat) (cuts : List Nat) (f : Nat), due ≠ [] → (∀ l ∈ due, 13 ∉ l ∧ 10 ∉ l) →
    StrLaws.ChainG (toStr (pre ++ crlf due)) (toStr [13, 10]) (pre ++ crlf due).length pre.length cuts f → (∀ k, f ≤ k → ¬ StrLaws.At (toStr (pre ++ crlf due)) (toStr [13, 10]) (pre ++ crlf due).length k) →
    StrLaws.partsFrom (toStr (pre ++ crlf due)) 2 pre.length cuts = due.map toStr
  | [], _, _, _, h, _, _, _ => absurd rfl h
  | [l], pre, cuts, f, _, hd, hC, hn => by
    have hl := hd l (.head _)
    have none_ : ∀ c, pre.length ≤ c → ¬ StrLaws.At (toStr (pre ++ crlf [l])) (toStr [13, 10]) (pre ++ crlf [l]).length c := by
      intro c hc h
      rw [at_iff] at h
      have e : (pre ++ crlf [l]).drop c = l.drop (c - pre.length) := by
        rw [List.drop_append, List.drop_eq_nil_of_le hc]; rfl
      rw [e] at h
      have : 13 ∈ (l.drop (c - pre.length)).take 2 := by rw [h]; simp
      exact hl.1 (List.mem_of_mem_drop (List.mem_of_mem_take this))
    cases cuts with
    | nil =>
      show [strSub _ _ _] = [_]
      congr 1
      apply Str.ext'
      apply Array.toList_inj.mp
      rw [StrLaws.strSub_toList, str_len]
      show ((pre ++ l).drop pre.length).take _ = l
      rw [List.drop_left]
      exact List.take_of_length_le (by simp [crlf])
    | cons c r => exact absurd hC.2.1 (none_ c hC.1)
  | l :: m :: due, pre, cuts, f, _, hd, hC, hn => by
    have hl := hd l (.head _)
    have ex : pre ++ crlf (l :: m :: due) = (pre ++ l ++ [13, 10]) ++ crlf (m :: due) := by
      show pre ++ (l ++ (13 :: 10 :: crlf (m :: due))) = _
      simp
    have hat : StrLaws.At (toStr (pre ++ crlf (l :: m :: due))) (toStr [13, 10]) (pre ++ crlf (l :: m :: due)).length (pre.length + l.length) := by
      rw [at_iff, ex, show pre ++ l ++ [13, 10] ++ crlf (m :: due) = (pre ++ l) ++ ([13, 10] ++ crlf (m :: due)) by simp]
      rw [show pre.length + l.length = (pre ++ l).length by simp, List.drop_left]; rfl
    have none_ : ∀ c, pre.length ≤ c → c < pre.length + l.length → ¬ StrLaws.At (toStr (pre ++ crlf (l :: m :: due))) (toStr [13, 10]) (pre ++ crlf (l :: m :: due)).length c := by
      intro c hc hc2 h
      rw [at_iff] at h
      have e : (pre ++ crlf (l :: m :: due)).drop c = l.drop (c - pre.length) ++ (13 :: 10 :: crlf (m :: due)) := by
        rw [List.drop_append, List.drop_eq_nil_of_le hc]
        show [] ++ (l ++ (13 :: 10 :: crlf (m :: due))).drop (c - pre.length) = _
        rw [List.drop_append_of_le_length (by omega)]; rfl
      rw [e] at h
      have hne : l.drop (c - pre.length) ≠ [] := by
        intro h0
        have := congrArg List.length h0
        simp at this; omega
      refine exE2 (List.exists_cons_of_ne_nil hne) fun x r hx => ?_
      rw [hx] at h
      have : x = 13 := by simpa using congrArg List.head? h
      have : 13 ∈ l.drop (c - pre.length) := by rw [hx, this]; simp
      exact hl.1 (List.mem_of_mem_drop this)
    cases cuts with
    | nil =>
      have hf : f = pre.length := hC
      exact absurd hat (hn _ (by omega))
    | cons c r =>
      refine anE4 hC fun c1 c2 c3 c4 => ?_
      clear hC
      have hc : c = pre.length + l.length := by
        rcases Nat.lt_trichotomy c (pre.length + l.length) with h | h | h
        · exact absurd c2 (none_ c c1 h)
        · exact h
        · exact absurd hat (c3 _ (by omega) h)
      subst hc
      show strSub _ _ _ :: StrLaws.partsFrom _ 2 _ r = toStr l :: (m :: due).map toStr
      congr 1
      · apply Str.ext'
        apply Array.toList_inj.mp
        rw [StrLaws.strSub_toList]
        show ((pre ++ (l ++ (13 :: 10 :: crlf (m :: due)))).drop pre.length).take _ = l
        rw [List.drop_left, show pre.length + l.length - pre.length = l.length by omega, List.take_left]
      · have hp : pre.length + l.length + 2 = (pre ++ l ++ [13, 10]).length := by simp; omega
        rw [show (toStr [13, 10]).length = 2 from rfl] at c4
        rw [ex] at c4 hn ⊢
        rw [hp] at c4 ⊢
        exact split_parts (m :: due) (pre ++ l ++ [13, 10]) r f (by simp) (fun x hx => hd x (.tail _ hx)) c4 hn
theorem crlf_two (l m : List Nat) (r : List (List Nat)) : 2 ≤ (crlf (l :: m :: r)).length := by
  show 2 ≤ (l ++ (13 :: 10 :: crlf (m :: r))).length
  simp; omega
theorem split_crlf (due : List (List Nat)) (hne : due ≠ []) (hd : ∀ l ∈ due, 13 ∉ l ∧ 10 ∉ l) : Txt.split (toStr (crlf due)) (toStr [13, 10]) = due.map toStr := by
  refine exE1 (StrLaws.occ_tight (toStr (crlf due)) (toStr [13, 10]) (by decide)) fun f h_0 => anE2 h_0 fun hC hn => ?_
  clear h_0
  rw [str_len] at hC
  have key := split_parts due [] _ f hne hd (by simpa using hC) (by simpa [str_len] using hn)
  simp only [List.nil_append, List.length_nil] at key
  unfold Txt.split
  have hk : PySem.Builtin.Str.strKind (toStr [13, 10]) = 1 := by decide +kernel
  have hk2 : 1 ≤ PySem.Builtin.Str.strKind (toStr (crlf due)) := by unfold PySem.Builtin.Str.strKind; split <;> (try split) <;> decide
  split
  · rename_i h
    rw [hk, str_len, str_len] at h
    simp only [Bool.or_eq_true, decide_eq_true_eq, List.length_cons, List.length_nil] at h
    have h1 : (crlf due).length < 2 := by omega
    match due, hne with
    | [l], _ => rfl
    | l :: m :: r, _ => have := crlf_two l m r; omega
  · split
    · rename_i h
      rw [← str_len (crlf due)] at key
      rw [str_len] at h
      rw [str_len] at key
      rw [List.isEmpty_iff.mp h] at key
      rw [← key]
      show _ = [strSub _ 0 _]
      rw [StrLaws.sub_whole]
    · rw [StrLaws.partsBetween_eq]
      rw [str_len]
      exact key
end Mine

end

section
open PySem PySem.W PyProof.Rows
namespace Mine
noncomputable def duo (l : List Nat) : List Nat := if l.take 1 = [46] then 46 :: l else l
noncomputable def endOf (i : Int) : List Nat := if i = 0 then [10] else if i = 1 then [13] else [13, 10]
noncomputable def mt (z : Int) : Nat → List (List Nat) → List Nat
  | _, [] => []
  | _, [l] => l
  | k, l :: m :: r => l ++ (endOf ((k + z) % 3) ++ mt z (k + 1) (m :: r))
noncomputable def mr (z : Int) : Bool → Nat → List (List Nat) → List Nat
  | _, _, [] => []
  | b, _, [l] => if b then duo l else l
  | b, k, l :: m :: r => (if b then duo l else l) ++ (endOf ((k + z) % 3) ++ mr z (endOf ((k + z) % 3) != [13]) (k + 1) (m :: r))
theorem fix_clean : ∀ (l r : List Nat) (b : Bool), 13 ∉ l → 10 ∉ l → fixE b (l ++ r) = l ++ fixE (if l = [] then b else false) r
  | [], r, b, _, _ => rfl
  | c :: l, r, b, h1, h2 => by
    have c1 : c ≠ 13 := fun e => h1 (e ▸ .head _)
    have c2 : c ≠ 10 := fun e => h2 (e ▸ .head _)
    rw [List.cons_append, fixE, if_neg c1, if_neg c2, show (c == 13) = false by simpa using c1, fix_clean l r false (fun h => h1 (.tail _ h)) (fun h => h2 (.tail _ h))]
    rw [if_neg (show ¬ (c :: l = []) by simp)]
    split <;> rfl
theorem quo_clean0 : ∀ (l r : List Nat), 10 ∉ l → quo false (l ++ r) = l ++ quo false r
  | [], r, _ => rfl
  | c :: l, r, h => by
    have c1 : c ≠ 10 := fun e => h (e ▸ .head _)
    rw [List.cons_append, quo, show (c == 10) = false by simpa using c1, quo_clean0 l r fun h' => h (.tail _ h')]
    rfl
theorem quo_clean (l r : List Nat) (b : Bool) (h : 10 ∉ l) : quo b (l ++ r) = (if b then duo l else l) ++ quo (if l = [] then b else false) r := by
  cases l with
  | nil => cases b <;> rfl
  | cons c l =>
    have c1 : c ≠ 10 := fun e => h (e ▸ .head _)
    rw [List.cons_append, quo, show (c == 10) = false by simpa using c1, quo_clean0 l r fun h' => h (.tail _ h'), if_neg (show ¬ (c :: l = []) by simp)]
    cases b with
    | false => rfl
    | true =>
      by_cases hc : c = 46
      · subst hc; rfl
      · rw [show (true && c == 46) = false by simpa using hc]
        have : duo (c :: l) = c :: l := by unfold duo; rw [if_neg (by simpa using hc)]
        rw [if_pos rfl, this]; rfl
theorem mod3 (a : Int) : a % 3 = 0 ∨ a % 3 = 1 ∨ a % 3 = 2 := by omega
theorem fix_mt (z : Int) : ∀ (ls : List (List Nat)) (k : Nat) (b : Bool), (∀ l ∈ ls, 13 ∉ l ∧ 10 ∉ l) → (b = true → ((k : Int) + z) % 3 = 2) → fixE b (mt z k ls) = crlf ls
  | [], _, _, _, _ => rfl
  | [l], k, b, h, _ => by
    have hl := h l (.head _)
    show fixE b l = l
    have := fix_clean l [] b hl.1 hl.2
    rw [List.append_nil] at this
    rw [this]; simp [fixE]
  | l :: m :: r, k, b, h, hb => by
    have hl := h l (.head _)
    rw [mt, fix_clean _ _ _ hl.1 hl.2]
    have ih := fun b hb => fix_mt z (m :: r) (k + 1) b (fun x hx => h x (.tail _ hx)) hb
    show l ++ _ = l ++ (13 :: 10 :: crlf (m :: r))
    congr 1
    have hb' : (if l = [] then b else false) = true → ((k : Int) + z) % 3 = 2 := by
      split
      · exact hb
      · intro h; cases h
    generalize (if l = [] then b else false) = b' at hb'
    rcases mod3 ((k : Int) + z) with e | e | e
    · have b0 : b' = false := by
        cases b' with
        | false => rfl
        | true => have := hb' rfl; omega
      rw [e, b0]
      show fixE false (10 :: mt z (k + 1) (m :: r)) = _
      rw [fixE, ih _ (fun h => by simp at h)]; rfl
    · rw [e]
      show fixE b' (13 :: mt z (k + 1) (m :: r)) = _
      rw [fixE, ih _ (fun _ => by push_cast; omega)]; rfl
    · rw [e]
      show fixE b' (13 :: 10 :: mt z (k + 1) (m :: r)) = _
      rw [fixE, fixE, ih _ (fun h => by simp at h)]; rfl
theorem quo_crlf : ∀ (ls : List (List Nat)), (∀ l ∈ ls, 10 ∉ l) → quo true (crlf ls) = crlf (ls.map duo)
  | [], _ => rfl
  | [l], h => by
    have := quo_clean l [] true (h l (.head _))
    rw [List.append_nil] at this
    show quo true l = duo l
    rw [this]; simp [quo]
  | l :: m :: r, h => by
    show quo true (l ++ (13 :: 10 :: crlf (m :: r))) = duo l ++ (13 :: 10 :: crlf ((m :: r).map duo))
    rw [quo_clean _ _ _ (h l (.head _)), if_pos rfl, quo, quo]
    rw [show (10 == 10) = true from rfl, quo_crlf (m :: r) fun x hx => h x (.tail _ hx)]
    simp
theorem quo_mt (z : Int) : ∀ (ls : List (List Nat)) (k : Nat) (b : Bool), (∀ l ∈ ls, 10 ∉ l) → quo b (mt z k ls) = mr z b k ls
  | [], _, _, _ => rfl
  | [l], k, b, h => by
    have := quo_clean l [] b (h l (.head _))
    rw [List.append_nil] at this
    show quo b l = _
    rw [this]; simp [quo, mr]
  | l :: m :: r, k, b, h => by
    rw [mt, mr, quo_clean _ _ _ (h l (.head _))]
    have ih := fun b => quo_mt z (m :: r) (k + 1) b fun x hx => h x (.tail _ hx)
    congr 1
    rcases mod3 ((k : Int) + z) with e | e | e
    · rw [e]
      show quo _ (10 :: mt z (k + 1) (m :: r)) = 10 :: mr z true (k + 1) (m :: r)
      rw [quo, ih]; simp
    · rw [e]
      show quo _ (13 :: mt z (k + 1) (m :: r)) = 13 :: mr z false (k + 1) (m :: r)
      rw [quo, ih]; simp
    · rw [e]
      show quo _ (13 :: 10 :: mt z (k + 1) (m :: r)) = 13 :: 10 :: mr z true (k + 1) (m :: r)
      rw [quo, quo, ih]; simp
theorem duo_clean {l : List Nat} (h : 13 ∉ l ∧ 10 ∉ l) : 13 ∉ duo l ∧ 10 ∉ duo l := by
  unfold duo; split
  · simp [h.1, h.2]
  · exact h
theorem duo_len (l : List Nat) : (duo l).length ≤ l.length + 1 := by unfold duo; split <;> simp
theorem endOf_len (i : Int) : (endOf i).length ≤ 2 := by
  unfold endOf; split <;> (try split) <;> simp
theorem mt_len (z : Int) : ∀ (ls : List (List Nat)) (k : Nat), (mt z k ls).length ≤ (ls.map (·.length)).sum + 2 * ls.length
  | [], _ => Nat.zero_le _
  | [l], _ => by simp [mt]
  | l :: m :: r, k => by
    have := mt_len z (m :: r) (k + 1)
    have he := endOf_len (((k : Int) + z) % 3)
    rw [mt]
    simp only [List.length_append, List.length_cons, List.map_cons, List.sum_cons] at this ⊢
    omega
theorem mt_mem (z : Int) {P : Nat → Prop} (h10 : P 10) (h13 : P 13) : ∀ (ls : List (List Nat)) (k : Nat), (∀ l ∈ ls, ∀ c ∈ l, P c) → ∀ c ∈ mt z k ls, P c
  | [], _, _ => fun c hc => nomatch hc
  | [l], _, h => h l (.head _)
  | l :: m :: r, k, h => by
    intro c hc
    rw [mt] at hc
    rcases List.mem_append.mp hc with hc | hc
    · exact h l (.head _) c hc
    · rcases List.mem_append.mp hc with hc | hc
      · unfold endOf at hc
        have : c = 10 ∨ c = 13 := by
          split at hc
          · simpa using Or.inl (List.mem_singleton.mp hc)
          · split at hc
            · exact .inr (List.mem_singleton.mp hc)
            · simp at hc; omega
        rcases this with rfl | rfl
        · exact h10
        · exact h13
      · exact mt_mem z h10 h13 (m :: r) (k + 1) (fun x hx => h x (.tail _ hx)) c hc
theorem fix_mem {P : Nat → Prop} (h10 : P 10) (h13 : P 13) : ∀ (T : List Nat) (b : Bool), (∀ c ∈ T, P c) → ∀ c ∈ fixE b T, P c
  | [], _, _ => fun c hc => nomatch hc
  | x :: T, b, h => by
    intro c hc
    rw [fixE] at hc
    rcases List.mem_append.mp hc with hc | hc
    · have : c = 10 ∨ c = 13 ∨ c = x := by
        split at hc
        · simp at hc; omega
        · split at hc
          · split at hc
            · cases hc
            · simp at hc; omega
          · simp at hc; omega
      rcases this with rfl | rfl | rfl
      · exact h10
      · exact h13
      · exact h _ (.head _)
    · exact fix_mem h10 h13 T _ (fun y hy => h y (.tail _ hy)) c hc
theorem quo_mem {P : Nat → Prop} (h46 : P 46) : ∀ (T : List Nat) (b : Bool), (∀ c ∈ T, P c) → ∀ c ∈ quo b T, P c
  | [], _, _ => fun c hc => nomatch hc
  | x :: T, b, h => by
    intro c hc
    rw [quo] at hc
    rcases List.mem_append.mp hc with hc | hc
    · have : c = 46 ∨ c = x := by
        split at hc <;> simp at hc <;> omega
      rcases this with rfl | rfl
      · exact h46
      · exact h _ (.head _)
    · exact quo_mem h46 T _ (fun y hy => h y (.tail _ hy)) c hc
noncomputable def rowT (mk n : Nat) : List Nat := List.replicate n 46 ++ [mk]
theorem rowT_duo {mk n : Nat} (h : 1 ≤ n) : duo (rowT mk n) = rowT mk (n + 1) := by
  obtain ⟨k, rfl⟩ : ∃ k, n = k + 1 := ⟨n - 1, by omega⟩
  unfold duo rowT
  rw [List.replicate_succ, List.cons_append]
  rw [if_pos (by rfl)]
  rw [List.replicate_succ, List.replicate_succ]; rfl
end Mine

end

section
open PySem PySem.W PyProof.Rows
namespace Mine
open PySem.Spec PySem.SeqAt
section
variable {prog : Program} {w : World} {g0 : Cx} {mg mb : Loc} {A : Around} {E : Value → Shared → Prop} {s : Shared} {h₀ : Heap} {L : Addr} {m : Loc} {N : Led} {env : Env}
theorem slice1_eq (x : List Nat) (u : Tok) : (if ((((none : Option (Int × Tok)).map (·.1)).getD 1 == 1 && (PySem.slicePicked (toStr x) none (some (1, u)) none).length == (toStr x).length) = true) then toStr x else (⟨((PySem.slicePicked (toStr x) none (some (1, u)) none).filterMap ((toStr x).cps[·]?)).toArray⟩ : Str)) = toStr (x.take 1) := by
  cases x with
  | nil => rfl
  | cons c r =>
    have e : PySem.slicePicked (toStr (c :: r)) none (some (1, u)) none = [0] := by
      show Builtin.Str.strSliceIndices none (some 1) 1 (toStr (c :: r)).length = _
      have : Builtin.Str.strSliceIndices none (some 1) 1 (toStr (c :: r)).length = Builtin.Str.strSliceIndices (some ((0 : Nat) : Int)) (some ((1 : Nat) : Int)) 1 (toStr (c :: r)).length := by
        simp only [Builtin.Str.strSliceIndices]
        rw [str_len]
        congr 1
      rw [this, StrLaws.strSliceIndices_plain (by decide) (by rw [str_len]; simp)]
      rfl
    refine (Eq.symm e) ▸ ?_
    cases r with
    | nil => rfl
    | cons d r =>
      rw [if_neg (by rw [str_len]; simp)]
      rfl
end
namespace he_slice1
noncomputable def st_ (g0 : Mine.Cx) (A : PySem.Around) (E : PySem.Value → PySem.Shared → Prop) (h₀ : PySem.Heap) (L : PySem.Addr) (m : Mine.Loc) (N : Mine.Led) (env : PySem.Env) (value : PySem.Expr) (k : Nat) (pc p pos : PySem.Pos) (Q : PySem.Value → Mine.Loc → Mine.Led → Prop) : Prop := ∀ (h : WB g0 A E h₀ L m N (eval value env) fun v m1 N1 => ∃ x t, v = mkS x t ∧ x.length ≤ 100000 ∧ ∀ sl so k, Q (mkS (x.take 1) k) m1 ((sl, so) :: N1)) (hs : ∀ o i, subscripted (.Slice none (some (.Constant (.int 1) k pc)) none p) false o i = operate [o, i] (getItem o i) ∨ subscripted (.Slice none (some (.Constant (.int 1) k pc)) none p) false o i = operate [i, o] (getItem o i)), WB g0 A E h₀ L m N (eval (.Subscript value (.Slice none (some (.Constant (.int 1) k pc)) none p) pos) env) Q
noncomputable abbrev T_ := (((Mine.Cx × (PySem.Around × (PySem.Value → PySem.Shared → Prop))) × ((PySem.Heap × PySem.Addr) × (Mine.Loc × Mine.Led))) × ((PySem.Env × (PySem.Expr × Nat)) × ((PySem.Pos × PySem.Pos) × (PySem.Pos × (PySem.Value → Mine.Loc → Mine.Led → Prop)))))
theorem ne_ : Nonempty T_ := ⟨by repeat' (first | apply Prod.mk | exact default | exact nAr | exact nCx | exact nSh | constructor)⟩
noncomputable def Q_ (p : T_) : Prop := st_ p.1.1.1 p.1.1.2.1 p.1.1.2.2 p.1.2.1.1 p.1.2.1.2 p.1.2.2.1 p.1.2.2.2 p.2.1.1 p.2.1.2.1 p.2.1.2.2 p.2.2.1.1 p.2.2.1.2 p.2.2.2.1 p.2.2.2.2
noncomputable def w_ : T_ := @Classical.epsilon _ ne_ fun p => ¬ Q_ p
noncomputable def g0 := w_.1.1.1
noncomputable def A := w_.1.1.2.1
noncomputable def E := w_.1.1.2.2
noncomputable def h₀ := w_.1.2.1.1
noncomputable def L := w_.1.2.1.2
noncomputable def env := w_.2.1.1
noncomputable def value := w_.2.1.2.1
noncomputable def k := w_.2.1.2.2
noncomputable def pc := w_.2.2.1.1
noncomputable def p := w_.2.2.1.2
noncomputable def Q := w_.2.2.2.2
theorem main_ : st_ g0 A E h₀ L w_.1.2.2.1 w_.1.2.2.2 env value k pc p w_.2.2.2.1 Q := by
  intro h hs
  rw [eval_Subscript]
  refine WB.bind (h.mono fun o m1 N1 q => WB.bind (WB.holding ?_))
  rw [arm_eval_Slice]
  refine WB.bind (α := Value) (WB.pure (WB.bind (WB.holding (α := Value) ?_)))
  show WB _ _ _ _ _ _ _ (eval (.Constant (.int 1) k pc) env) _
  refine e_int fun tu => WB.bind (WB.holding (α := Value) (WB.pure ?_))
  refine via fun ξ κ=>?_
  obtain ⟨x, t, e_1, hz, q⟩ := q
  refine κ ?_;clear κ ξ
  subst e_1
  refine WB.alloc (o := { cls := .type "slice", data := .fields #[.none, .int 1 tu, .none] }) rfl (fun s Q' E' at_ r => wpAny_newObj_type (r s.toks) (by size_fits)) fun sl fsl => ?_
  refine WB.at_ ?_
  have tail : WB g0 A E h₀ L m1 ((sl, { cls := .type "slice", data := .fields #[.none, .int 1 tu, .none] }) :: N1) (do let r ← subscripted (.Slice none (some (.Constant (.int 1) k pc)) none p) false (mkS x t) (.ref sl); letTemporaryGo value (mkS x t) r; pure r) Q := by
    refine WB.bind (WB.mono (Q := fun r m' N' => (∃ k, r = mkS (x.take 1) k) ∧ m' = m1 ∧ N' = (sl, { cls := .type "slice", data := .fields #[.none, .int 1 tu, .none] }) :: N1) ?_ ?_)
    · have core : WB g0 A E h₀ L m1 ((sl, { cls := .type "slice", data := .fields #[.none, .int 1 tu, .none] }) :: N1) (getItem (mkS x t) (.ref sl)) (fun r m' N' => (∃ k, r = mkS (x.take 1) k) ∧ m' = m1 ∧ N' = (sl, { cls := .type "slice", data := .fields #[.none, .int 1 tu, .none] }) :: N1) := by
        refine WB.tokR (f := fun k => mkS (x.take 1) k) (fun s Q' E' at_ r => ?_) fun k => ⟨⟨k, rfl⟩, rfl, rfl⟩
        refine wpAny_getItem_str_slice (l := none) (u := some (1, tu)) (st := none) ⟨_, at_ _ _ (.inr (.head _)), rfl, rfl⟩ rfl ?_
        refine post_val_or_str ⟨?_, fun t' k => ?_⟩
        · rw [slice1_eq, str_len, sizeLine_eq]
          have := List.length_take_le 1 x
          omega
        · rw [slice1_eq]; exact r t' k
      rcases hs (mkS x t) (.ref sl) with e | e
      · rw [e]; exact WB.operate core
      · rw [e]; exact WB.operate core
    · intro r m' N' e_2
      refine via fun ξ κ=>?_
      obtain ⟨⟨k, e_3⟩, e_4, e_5⟩ := e_2
      refine κ ?_;clear κ ξ
      subst e_3
      subst e_4
      subst e_5
      exact ⟨fun s I => wpAny_bind (wpAny_letTemporaryGo (wpAny_pure ⟨_, _, I, .refl .., q sl _ k⟩))⟩
  refine ⟨fun s I => ?_⟩
  refine wpAny_bind ?_
  have hi : s.TypeIs (mkS x t) "str" := typeIs_str _ _ _
  refine (Eq.symm (getitemInPython_of_ne hi.not_modules)) ▸ ?_
  refine wpAny_bind (wpAny_specialOf hi PySem.F.slot_str_getitem.lookup ?_)
  first
    | exact wpAny_pure (tail.run s I)
    | exact wpAny_bind (wpAny_pure (tail.run s I))
    | exact tail.run s I
end he_slice1
theorem e_slice1 {g0 A E h₀ L m N env value k pc p pos Q} : he_slice1.st_ g0 A E h₀ L m N env value k pc p pos Q := Mine.hk he_slice1.ne_ (P := he_slice1.Q_) he_slice1.main_ (((g0, (A, E)), ((h₀, L), (m, N))), ((env, (value, k)), ((pc, p), (pos, Q))))
section
variable {prog : Program} {w : World} {g0 : Cx} {mg mb : Loc} {A : Around} {E : Value → Shared → Prop} {s : Shared} {h₀ : Heap} {L : Addr} {m : Loc} {N : Led} {env : Env}
theorem readsAll_tx (h : Heap) : ∀ ps : List (List Nat × Tok), ReadsAll h (txV ps) (ps.map fun q => PyData.str (toStr q.1)) []
  | [] => .nil
  | q :: r => .cons (as := []) (bs := []) (.str _ _) (readsAll_tx h r)
theorem lay_tx : ∀ {ps : List (List Nat × Tok)}, (∀ q ∈ ps, ∀ c ∈ q.1, c < 0x110000) → PyData.canLayAll0 (ps.map fun q => PyData.str (toStr q.1)) = true
  | [], _ => by simp only [List.map_nil, PyData.canLayAll0]
  | q :: r, h => by
    refine (Eq.symm List.map_cons) ▸ ?_
    simp only [PyData.canLayAll0, lay_tx (fun x hx => h x (.tail _ hx)), Bool.and_true, PyData.canLay0]
    have := h q (.head _)
    show ((toStr q.1).cps.all fun c => decide (c < 0x110000)) = true
    simpa using this
theorem depth_tx : ∀ ps : List (List Nat × Tok), PyData.depthAll (ps.map fun q => PyData.str (toStr q.1)) = 0
  | [] => by simp only [List.map_nil, PyData.depthAll]
  | q :: r => by rw [List.map_cons]; simp only [PyData.depthAll, depth_tx r, PyData.depth]; rfl
theorem shaped_tx {ps : List (List Nat × Tok)} (h : ∀ q ∈ ps, ∀ c ∈ q.1, c < 0x110000) : shaped (.list (ps.map fun q => PyData.str (toStr q.1))) = true := by
  unfold shaped
  simp only [PyData.canLay0, lay_tx h, PyData.depth, depth_tx ps]
  decide
theorem eqv_tx : ∀ ps qs : List (List Nat × Tok), PyData.eqvAll (ps.map fun q => PyData.str (toStr q.1)) (qs.map fun q => PyData.str (toStr q.1)) = (ps.map (·.1) == qs.map (·.1))
  | [], [] => by simp [PyData.eqvAll]
  | [], q :: r => by simp [PyData.eqvAll]
  | q :: r, [] => by simp [PyData.eqvAll]
  | p :: ps, q :: qs => by
    simp only [List.map_cons, PyData.eqvAll, PyData.eqv, eqv_tx ps qs]
    have : (toStr p.1 == toStr q.1) = (p.1 == q.1) := by
      rw [Bool.eq_iff_iff]
      simp only [beq_iff_eq]
      constructor
      · intro h
        have := congrArg (fun x : Str => x.cps.toList) h
        simpa using this
      · intro h; rw [h]
    rw [this]; rfl
theorem eqv_list (a b : List PyData) : PyData.eqv (.list a) (.list b) = PyData.eqvAll a b := by simp only [PyData.eqv]
theorem ll_eq {a b : Addr} {ao bo : Obj} {ps qs : List (List Nat × Tok)} {Q : Value → Loc → Led → Prop} (Ro : Room A 1) (ha : At h₀ N a ao) (hao : LX ao (txV ps)) (hb : At h₀ N b bo) (hbo : LX bo (txV qs)) (hp : ∀ q ∈ ps, ∀ c ∈ q.1, c < 0x110000) (hq : ∀ q ∈ qs, ∀ c ∈ q.1, c < 0x110000)
    (h : Q (.bool (ps.map (·.1) == qs.map (·.1))) m N) : WB g0 A E h₀ L m N (compareOp .Eq (.ref a) (.ref b)) Q := by
  refine exE1 hao fun n1 e_6 => ?_
  clear hao
  subst e_6
  refine exE1 hbo fun n2 e_7 => ?_
  clear hbo
  subst e_7
  exact WB.stillR (a := .bool (ps.map (·.1) == qs.map (·.1))) (fun s Q' E' at_ q => eq_dataH (reads_list_at (at_ _ _ ha) rfl rfl (readsAll_tx _ ps)) (reads_list_at (at_ _ _ hb) rfl rfl (readsAll_tx _ qs)) (shaped_tx hp) (shaped_tx hq) (by have := Ro.units; show A.units + 64 < 9900; omega)
    (by rw [eqv_list, eqv_tx]; exact q s.toks)) h
theorem ll_ne {a b : Addr} {ao bo : Obj} {ps qs : List (List Nat × Tok)} {Q : Value → Loc → Led → Prop} (Ro : Room A 1) (ha : At h₀ N a ao) (hao : LX ao (txV ps)) (hb : At h₀ N b bo) (hbo : LX bo (txV qs)) (hp : ∀ q ∈ ps, ∀ c ∈ q.1, c < 0x110000) (hq : ∀ q ∈ qs, ∀ c ∈ q.1, c < 0x110000)
    (h : Q (.bool (ps.map (·.1) != qs.map (·.1))) m N) : WB g0 A E h₀ L m N (compareOp .NotEq (.ref a) (.ref b)) Q := by
  refine exE1 hao fun n1 e_8 => ?_
  clear hao
  subst e_8
  refine exE1 hbo fun n2 e_9 => ?_
  clear hbo
  subst e_9
  exact WB.stillR (a := .bool (ps.map (·.1) != qs.map (·.1))) (fun s Q' E' at_ q => ne_dataH (reads_list_at (at_ _ _ ha) rfl rfl (readsAll_tx _ ps)) (reads_list_at (at_ _ _ hb) rfl rfl (readsAll_tx _ qs)) (shaped_tx hp) (shaped_tx hq) (by have := Ro.units; show A.units + 64 < 9900; omega)
    (by rw [eqv_list, eqv_tx]; exact q s.toks)) h
theorem g_split {T : List Nat} {t : Tok} {pl : Sem Bool} {Q : Value × List Value → Loc → Led → Prop} (h : Q (.builtin "str.split", [mkS T t]) m N) : WB g0 A E h₀ L m N (getMethod (mkS T t) (Str.ofString "split") pl) Q :=
  WB.still (a := (.builtin "str.split", [mkS T t])) (fun s Q' E' q => GM.split (q s.toks)) h
end
namespace hc_split
noncomputable def st_ (g0 : Mine.Cx) (A : PySem.Around) (E : PySem.Value → PySem.Shared → Prop) (h₀ : PySem.Heap) (L : PySem.Addr) (m : Mine.Loc) (N : Mine.Led) (due : List (List Nat)) (t u : PySem.Tok) (Q : PySem.Value → Mine.Loc → Mine.Led → Prop) : Prop := ∀ (hne : due ≠ []) (hd : ∀ l ∈ due, 13 ∉ l ∧ 10 ∉ l) (hz : (crlf due).length ≤ 100000) (h : ∀ r ro ps, Fresh h₀ L N r → LX ro (txV ps) → ps.map (·.1) = due → Q (.ref r) m ((r, ro) :: N)), WB g0 A E h₀ L m N (call (.builtin "str.split") [mkS (crlf due) t, mkS [13, 10] u]) Q
noncomputable abbrev T_ := (((Mine.Cx × PySem.Around) × ((PySem.Value → PySem.Shared → Prop) × (PySem.Heap × PySem.Addr))) × ((Mine.Loc × (Mine.Led × (List (List Nat)))) × (PySem.Tok × (PySem.Tok × (PySem.Value → Mine.Loc → Mine.Led → Prop)))))
theorem ne_ : Nonempty T_ := ⟨by repeat' (first | apply Prod.mk | exact default | exact nAr | exact nCx | exact nSh | constructor)⟩
noncomputable def Q_ (p : T_) : Prop := st_ p.1.1.1 p.1.1.2 p.1.2.1 p.1.2.2.1 p.1.2.2.2 p.2.1.1 p.2.1.2.1 p.2.1.2.2 p.2.2.1 p.2.2.2.1 p.2.2.2.2
noncomputable def w_ : T_ := @Classical.epsilon _ ne_ fun p => ¬ Q_ p
noncomputable def due := w_.2.1.2.2
noncomputable def t := w_.2.2.1
noncomputable def u := w_.2.2.2.1
theorem main_ : st_ w_.1.1.1 w_.1.1.2 w_.1.2.1 w_.1.2.2.1 w_.1.2.2.2 w_.2.1.1 w_.2.1.2.1 due t u w_.2.2.2.2 := by
  intro hne hd hz h
  refine WB.allocR (R := fun o => ∃ ps : List (List Nat × Tok), LX o (txV ps) ∧ ps.map (·.1) = due) (fun s Q' E' at_ q => ?_) fun a o ⟨ps, h1, h2⟩ f => h a o ps f h1 h2
  have hlen : (Builtin.Str.partsBetween (toStr (crlf due)) (Builtin.Str.occurrences (toStr (crlf due)) (toStr [13, 10]) 0 (toStr (crlf due)).length ((toStr (crlf due)).length + 1)) (toStr [13, 10]).length).length ≤ sizeLine := by
    have := split_le (toStr (crlf due)) (toStr [13, 10])
    rw [str_len] at this
    have hh : (Builtin.Str.partsBetween (toStr (crlf due)) (Builtin.Str.occurrences (toStr (crlf due)) (toStr [13, 10]) 0 (toStr (crlf due)).length ((toStr (crlf due)).length + 1)) (toStr [13, 10]).length).length ≤ (crlf due).length + 2 := by
      unfold Txt.split at this
      split at this
      · rename_i h1
        rw [str_len, str_len] at h1
        have hk : PySem.Builtin.Str.strKind (toStr [13, 10]) = 1 := by decide +kernel
        have hk2 : 1 ≤ PySem.Builtin.Str.strKind (toStr (crlf due)) := by unfold PySem.Builtin.Str.strKind; split <;> (try split) <;> decide
        rw [hk] at h1
        simp only [Bool.or_eq_true, decide_eq_true_eq, List.length_cons, List.length_nil] at h1
        rw [len_partsBetween]
        refine exE1 (StrLaws.occ_tight (toStr (crlf due)) (toStr [13, 10]) (by decide)) fun f h_0 => anE2 h_0 fun hC hn => ?_
        clear h_0
        cases ho : Builtin.Str.occurrences (toStr (crlf due)) (toStr [13, 10]) 0 (toStr (crlf due)).length ((toStr (crlf due)).length + 1) with
        | nil => simp
        | cons c r =>
          rw [ho] at hC
          have := hC.2.1.1
          rw [str_len, str_len] at this
          simp only [List.length_cons, List.length_nil] at this
          omega
      · split at this
        · rename_i h1 h2
          rw [List.isEmpty_iff.mp h2, len_partsBetween]; simp
        · exact this
    rw [sizeLine_eq]; omega
  have hy : ((toStr [13, 10]).length == 0) = false := by rw [str_len]; rfl
  have spl := split_crlf due hne hd
  have conv : ∀ (l : List (Str × Tok)), l.map (·.1) = due.map toStr → ∃ ps : List (List Nat × Tok), txV ps = strValues l ∧ ps.map (·.1) = due := by
    intro l hl
    refine ⟨l.map fun q => (q.1.cps.toList, q.2), ?_, ?_⟩
    · show List.map _ (List.map _ l) = _
      refine (Eq.symm List.map_map) ▸ ?_
      unfold strValues
      refine List.map_congr_left fun q _ => ?_
      show Value.str ⟨q.1.cps.toList.toArray⟩ q.2 = Value.str q.1 q.2
      simp
    · rw [List.map_map]
      have : l.map ((fun x : List Nat × Tok => x.1) ∘ fun q : Str × Tok => (q.1.cps.toList, q.2)) = (l.map (·.1)).map (fun x : Str => x.cps.toList) := by rw [List.map_map]; rfl
      rw [this, hl, List.map_map]
      conv => rhs; rw [← List.map_id due]
      exact List.map_congr_left fun x _ => by simp
  cases h1 : (decide ((toStr (crlf due)).length < (toStr [13, 10]).length) || decide (PySem.Builtin.Str.strKind (toStr (crlf due)) < PySem.Builtin.Str.strKind (toStr [13, 10])))
  · cases hf : (Builtin.Str.occurrences (toStr (crlf due)) (toStr [13, 10]) 0 (toStr (crlf due)).length ((toStr (crlf due)).length + 1)).isEmpty
    · refine call_meets PySem.F.slot_str_split (typeIs_str _ _ _) PySem.F.entry_str_split (PySem.F.args_str_split_2 _ _) (meets_str_split_sep _ _ t u h1 hy hf (by rw [str_len, sizeLine_eq]; omega) hlen) ?_
      rw [strsFrom_eq]
      refine exE1 (conv (numbered s.toks _) ((numbered_texts _ _).trans ((((if_neg (ne_true_of_eq_false h1)).trans (if_neg (ne_true_of_eq_false hf))).symm).trans spl))) fun ps h_0 => anE2 h_0 fun e1 e2 => ?_
      clear h_0
      exact q _ _ ⟨ps, ⟨0, by rw [e1]⟩, e2⟩ rfl
    · refine exE1 (conv [(toStr (crlf due), t)] (((if_neg (ne_true_of_eq_false h1)).trans (if_pos hf)).symm.trans spl)) fun ps h_0 => anE2 h_0 fun e1 e2 => ?_
      clear h_0
      exact call_meets PySem.F.slot_str_split (typeIs_str _ _ _) PySem.F.entry_str_split (PySem.F.args_str_split_2 _ _) (meets_str_split_not_found _ _ t u h1 hy hf) (q { cls := .type "list", data := .seq (strValues [(toStr (crlf due), t)]).toArray } s.toks ⟨ps, ⟨0, by rw [e1]⟩, e2⟩ rfl)
  · refine exE1 (conv [(toStr (crlf due), t)] ((if_pos h1).symm.trans spl)) fun ps h_0 => anE2 h_0 fun e1 e2 => ?_
    clear h_0
    exact call_meets PySem.F.slot_str_split (typeIs_str _ _ _) PySem.F.entry_str_split (PySem.F.args_str_split_2 _ _) (meets_str_split_cannot_occur _ _ t u h1) (q { cls := .type "list", data := .seq (strValues [(toStr (crlf due), t)]).toArray } s.toks ⟨ps, ⟨0, by rw [e1]⟩, e2⟩ rfl)
end hc_split
theorem c_split {g0 A E h₀ L m N due t u Q} : hc_split.st_ g0 A E h₀ L m N due t u Q := Mine.hk hc_split.ne_ (P := hc_split.Q_) hc_split.main_ (((g0, A), (E, (h₀, L))), ((m, (N, due)), (t, (u, Q))))
section
variable {prog : Program} {w : World} {g0 : Cx} {mg mb : Loc} {A : Around} {E : Value → Shared → Prop} {s : Shared} {h₀ : Heap} {L : Addr} {m : Loc} {N : Led} {env : Env}
end
end Mine

end

section
open PySem PySem.W PyProof.Rows
namespace Mine
open Builtin.Int (intBits)
noncomputable def loopBody : Stmt → List Stmt | .For _ _ b _ _ => b | _ => []
noncomputable def asgVal : Stmt → Expr | .Assign _ v _ => v | _ => default
noncomputable def binL : Expr → Expr | .BinOp l _ _ _ => l | _ => default
noncomputable def binR : Expr → Expr | .BinOp _ _ r _ => r | _ => default
noncomputable def ifA : Expr → Expr | .IfExp _ a _ _ => a | _ => default
noncomputable def ifB : Expr → Expr | .IfExp _ _ b _ => b | _ => default
noncomputable def sendBody : List Stmt := loopBody ((bodyOf 27).getD 3 (.Pass default))
noncomputable def textFor : Stmt := sendBody.getD 7 (.Pass default)
noncomputable def takeFor : Stmt := sendBody.getD 12 (.Pass default)
noncomputable def en (z : Int) (n i : Nat) : List Nat := if i + 1 < n then endOf (((i : Nat) + z) % 3) else []
theorem mt_step (z : Int) {ls : List (List Nat)} {i : Nat} (h : i < ls.length) : mt z i (ls.drop i) = ls[i] ++ (en z ls.length i ++ mt z (i + 1) (ls.drop (i + 1))) := by
  refine (Eq.symm (List.drop_eq_getElem_cons h)) ▸ ?_
  unfold en
  by_cases h2 : i + 1 < ls.length
  · rw [if_pos h2, List.drop_eq_getElem_cons h2, mt]
  · rw [if_neg h2, List.drop_eq_nil_of_le (by omega)]; simp [mt]
theorem mr_step (z : Int) (b : Bool) {ls : List (List Nat)} {i : Nat} (h : i < ls.length) : mr z b i (ls.drop i) = (if b then duo ls[i] else ls[i]) ++ (en z ls.length i ++ mr z (en z ls.length i != [13]) (i + 1) (ls.drop (i + 1))) := by
  refine (Eq.symm (List.drop_eq_getElem_cons h)) ▸ ?_
  unfold en
  by_cases h2 : i + 1 < ls.length
  · rw [if_pos h2, List.drop_eq_getElem_cons h2, mr]
  · rw [if_neg h2, List.drop_eq_nil_of_le (by omega)]; simp [mr]
section
variable {prog : Program} {w : World} {g0 : Cx} {mg mb : Loc} {A : Around} {E : Value → Shared → Prop} {s : Shared} {h₀ : Heap} {L : Addr} {m : Loc} {N : Led}
theorem f_concatS {x y : List Nat} {t u : Tok} (O : OkAt mg mb g0 s) (Ro : Room A 1) (hz : x.length + y.length ≤ 1000000) : wpAny (model g0.prog g0.w) A (call (.ref 108) [mkS x t, mkS y u]) (Back g0 s.heap fun v _ => ∃ k, v = mkS (x ++ y) k) E s := by
  have := f_concat_s (g0 := g0) (A := A) (E := E) (x := toStr x) (y := toStr y) (t := t) (u := u) O Ro (by rw [str_len, str_len]; exact hz)
  rw [str_app] at this
  exact this
noncomputable def SameBut (ns : List String) (m0 m : Loc) : Prop := ∀ x : String, x ∉ ns → m (Str.ofString x) = m0 (Str.ofString x)
theorem SameBut.flo {ns : List String} {m0 m : Loc} (h : SameBut ns m0 m) (hn : "" ∉ ns) : flo m = flo m0 := by
  have := h "" hn
  unfold Mine.flo floorKey; rw [this]
theorem SameBut.upd {ns : List String} {m0 m : Loc} (h : SameBut ns m0 m) {x : String} {v : Value} (hx : x ∈ ns) : SameBut ns m0 (upd m (Str.ofString x) v) := fun y hy => by
  rw [upd_get, if_neg (fun e => hy (by rw [ofString_inj.mp e]; exact hx))]
  exact h y hy
theorem SameBut.refl (ns : List String) (m : Loc) : SameBut ns m m := fun _ _ => rfl
end
namespace htext_loop
noncomputable def st_ (g0 : Mine.Cx) (mg mb : Mine.Loc) (A : PySem.Around) (h₀ : PySem.Heap) (L : PySem.Addr) (m : Mine.Loc) (N : Mine.Led) (cn : PySem.Str) (a0 : PySem.Addr) (ccd : PySem.Value) (cl : List (PySem.Str × PySem.Addr)) (rest : List PySem.Stmt) (Q : PySem.Flow → Mine.Loc → Mine.Led → Prop) (ll du el : PySem.Addr) (lo do_ eo : PySem.Obj) (Ls Ds : List (List Nat × PySem.Tok)) (e1 e2 e3 t1 t2 t3 t4 t5 : PySem.Tok) (tn sd : Int) : Prop := ∀ (G : Gd mg mb h₀) (Rd : Room A 2) (hl : At h₀ N ll lo) (hlo : LX lo (txV Ls)) (hd : At h₀ N du do_) (hdo : LX do_ (txV Ds)) (he : At h₀ N el eo) (heo : LX eo (txV [([10], e1), ([13], e2), ([13, 10], e3)])) (hDs : Ds.map (·.1) = (Ls.map (·.1)).map duo) (hn : Ls.length ≤ 100) (ml : m (Str.ofString "lines") = some (.ref ll)) (md : m (Str.ofString "due") = some (.ref du)) (me : m (Str.ofString "ends") = some (.ref el)) (mtn : m (Str.ofString "turn") = some (.int tn t1)) (msd : m (Str.ofString "sending") = some (.int sd t2)) (mx : m (Str.ofString "text") = some (mkS [] t3)) (mw : m (Str.ofString "raw") = some (mkS [] t4)) (mf : m (Str.ofString "feed") = some (.bool true)) (hz1 : (mt (-tn - sd) 0 (Ls.map (·.1))).length ≤ 10000) (hz2 : (mr (-tn - sd) true 0 (Ls.map (·.1))).length ≤ 10000) (h : ∀ m' N' k1 k2, SameBut ["text", "raw", "feed", "end", "k"] m m' → (∀ p ∈ N, p ∈ N') → m' (Str.ofString "text") = some (mkS (mt (-tn - sd) 0 (Ls.map (·.1))) k1) → m' (Str.ofString "raw") = some (mkS (mr (-tn - sd) true 0 (Ls.map (·.1))) k2) →
      WB g0 A (fun _ _ => False) h₀ L m' N' (execs rest (envX cn (scopeOf 27) L a0 ccd cl)) Q), WB g0 A (fun _ _ => False) h₀ L m N (execs (textFor :: rest) (envX cn (scopeOf 27) L a0 ccd cl)) Q
noncomputable abbrev T_ := (((((Mine.Cx × Mine.Loc) × (Mine.Loc × PySem.Around)) × ((PySem.Heap × PySem.Addr) × (Mine.Loc × Mine.Led))) × (((PySem.Str × PySem.Addr) × (PySem.Value × (List (PySem.Str × PySem.Addr)))) × (((List PySem.Stmt) × (PySem.Flow → Mine.Loc → Mine.Led → Prop)) × (PySem.Addr × PySem.Addr)))) × ((((PySem.Addr × PySem.Obj) × (PySem.Obj × PySem.Obj)) × (((List (List Nat × PySem.Tok)) × (List (List Nat × PySem.Tok))) × (PySem.Tok × PySem.Tok))) × (((PySem.Tok × PySem.Tok) × (PySem.Tok × PySem.Tok)) × ((PySem.Tok × PySem.Tok) × (Int × Int)))))
theorem ne_ : Nonempty T_ := ⟨by repeat' (first | apply Prod.mk | exact default | exact nAr | exact nCx | exact nSh | constructor)⟩
noncomputable def Q_ (p : T_) : Prop := st_ p.1.1.1.1.1 p.1.1.1.1.2 p.1.1.1.2.1 p.1.1.1.2.2 p.1.1.2.1.1 p.1.1.2.1.2 p.1.1.2.2.1 p.1.1.2.2.2 p.1.2.1.1.1 p.1.2.1.1.2 p.1.2.1.2.1 p.1.2.1.2.2 p.1.2.2.1.1 p.1.2.2.1.2 p.1.2.2.2.1 p.1.2.2.2.2 p.2.1.1.1.1 p.2.1.1.1.2 p.2.1.1.2.1 p.2.1.1.2.2 p.2.1.2.1.1 p.2.1.2.1.2 p.2.1.2.2.1 p.2.1.2.2.2 p.2.2.1.1.1 p.2.2.1.1.2 p.2.2.1.2.1 p.2.2.1.2.2 p.2.2.2.1.1 p.2.2.2.1.2 p.2.2.2.2.1 p.2.2.2.2.2
noncomputable def w_ : T_ := @Classical.epsilon _ ne_ fun p => ¬ Q_ p
noncomputable def g0 := w_.1.1.1.1.1
noncomputable def A := w_.1.1.1.2.2
noncomputable def h₀ := w_.1.1.2.1.1
noncomputable def L := w_.1.1.2.1.2
noncomputable def m := w_.1.1.2.2.1
noncomputable def N := w_.1.1.2.2.2
noncomputable def cn := w_.1.2.1.1.1
noncomputable def a0 := w_.1.2.1.1.2
noncomputable def ccd := w_.1.2.1.2.1
noncomputable def cl := w_.1.2.1.2.2
noncomputable def Q := w_.1.2.2.1.2
noncomputable def ll := w_.1.2.2.2.1
noncomputable def du := w_.1.2.2.2.2
noncomputable def el := w_.2.1.1.1.1
noncomputable def lo := w_.2.1.1.1.2
noncomputable def do_ := w_.2.1.1.2.1
noncomputable def eo := w_.2.1.1.2.2
noncomputable def Ls := w_.2.1.2.1.1
noncomputable def Ds := w_.2.1.2.1.2
noncomputable def e1 := w_.2.1.2.2.1
noncomputable def e2 := w_.2.1.2.2.2
noncomputable def e3 := w_.2.2.1.1.1
noncomputable def t1 := w_.2.2.1.1.2
noncomputable def t3 := w_.2.2.1.2.2
noncomputable def t4 := w_.2.2.2.1.1
noncomputable def tn := w_.2.2.2.2.1
noncomputable def sd := w_.2.2.2.2.2
set_option maxHeartbeats 2000000 in
theorem main_ : st_ g0 w_.1.1.1.1.2 w_.1.1.1.2.1 A h₀ L m N cn a0 ccd cl w_.1.2.2.1.1 Q ll du el lo do_ eo Ls Ds e1 e2 e3 t1 w_.2.2.1.2.1 t3 t4 w_.2.2.2.1.2 tn sd := by
  intro G Rd hl hlo hd hdo he heo hDs hn ml md me mtn msd mx mw mf hz1 hz2 h
  have hlenL : (Ls.map (·.1)).length = Ls.length := by simp
  generalize hls : Ls.map (·.1) = ls at *
  generalize hz : -tn - sd = z at *
  show WB _ _ _ _ _ _ _ (execs (.For (.Name _ _) _ _ [] _ :: _) _) _
  refine ex_forN 0 Ls.length (fun i m' N' => SameBut ["text", "raw", "feed", "end", "k"] m m' ∧ (∀ p ∈ N, p ∈ N') ∧ ∃ T W f k1 k2, m' (Str.ofString "text") = some (mkS T k1) ∧ m' (Str.ofString "raw") = some (mkS W k2) ∧ m' (Str.ofString "feed") = some (.bool f) ∧
      T ++ mt z i (ls.drop i) = mt z 0 ls ∧ W ++ mr z f i (ls.drop i) = mr z true 0 ls) Rd.handled ks__law_pairs k__law_pairs_k (by decide) (by omega) ?_ ?_ ?_
  · refine e_callt G ks__law_pairs k__law_pairs_range (id := "range") (by decide) rfl ?_
    refine args_cons ?_
    refine e_callb G ks__law_pairs k__law_pairs_len (id := "len") (by decide) rfl ?_
    refine args_cons (e_local ks__law_pairs k__law_pairs_lines ml ?_)
    refine args_nil ?_
    refine c_lenL hl hlo.lo (by simp; omega) fun tl => ?_
    refine args_nil ?_
    refine c_range1 fun r t1 u1 v1 fr => rngI r _ t1 u1 v1 (.inr (.head _)) (by simp) (by simp) ⟨.refl _ _, fun p hp => .tail _ hp, exI5 ([]) ([]) true t3 t4 ⟨mx, mw, mf, by simp, by simp⟩⟩
  · intro i m' N' tk hi e_1
    refine anE3 e_1 fun hs hN h_0 => exE5 h_0 fun T W f k1 k2 h_1 => anE5 h_1 fun mx' mw' mf' eT eW => ?_
    clear h_0 h_1 e_1
    have hi' : i < ls.length := by omega
    have gl : ∀ x : String, x ∉ ["text", "raw", "feed", "end", "k"] → ∀ v, m (Str.ofString x) = some v → upd m' (Str.ofString "k") (.int (0 + i) tk) (Str.ofString x) = some v := fun x hx v hv => (hs.upd (x := "k") (by decide) x hx).trans hv
    have hl' : At h₀ N' ll lo := hl.imp id (hN _)
    have hd' : At h₀ N' du do_ := hd.imp id (hN _)
    have he' : At h₀ N' el eo := he.imp id (hN _)
    rw [mt_step z hi'] at eT
    rw [mr_step z f hi'] at eW
    have lT := congrArg List.length eT
    have lW := congrArg List.length eW
    rw [List.length_append, List.length_append, List.length_append] at lT lW
    have hLi : (txV Ls)[i]? = some (mkS ls[i] Ls[i].2) := by
      subst hls; simp [hi]
    have hDl : Ds.length = Ls.length := by have := congrArg List.length hDs; simpa [← hls] using this
    have hDi : (txV Ds)[i]? = some (mkS (duo ls[i]) (Ds[i]'(by omega)).2) := by
      have e : (Ds[i]'(by omega)).1 = duo ls[i] := by
        have := congrArg (fun l : List (List Nat) => l[i]?) hDs
        simpa [hi', hi, hDl] using this
      rw [← e]; simp [hDl, hi]
    have mk' : upd m' (Str.ofString "k") (.int (0 + i) tk) (Str.ofString "k") = some (.int (0 + i) tk) := by kwd_inv
    show WB _ _ _ _ _ _ _ (execs (_ :: _ :: _ :: _ :: []) _) _
    have hend : ∀ {Q : Value → Loc → Led → Prop}, (∀ k, Q (mkS (en z ls.length i) k) (upd m' (Str.ofString "k") (.int (0 + i) tk)) N') → WB g0 A (fun _ _ => False) h₀ L (upd m' (Str.ofString "k") (.int (0 + i) tk)) N' (eval (asgVal ((loopBody textFor).getD 0 (.Pass default))) (envX cn (scopeOf 27) L a0 ccd cl)) Q := by
      intro Q hQ
      show WB _ _ _ _ _ _ _ (eval (.IfExp _ _ _ _) _) _
      refine e_ifexp ?_
      refine t_cmp ?_
      refine e_local ks__law_pairs k__law_pairs_k mk' ?_
      refine e_bin ?_
      refine e_callb G ks__law_pairs k__law_pairs_len (id := "len") (by decide) rfl ?_
      refine args_cons (e_local ks__law_pairs k__law_pairs_lines (gl "lines" (by decide) _ ml) ?_)
      refine args_nil ?_
      refine c_lenL hl' hlo.lo (by simp; omega) fun tl => ?_
      repeat tb_rel
      by_cases h2 : i + 1 < ls.length
      · refine if_t3 (show decide ((0 + (i : Int)) < ((txV Ls).length : Int) - 1) = true by simp; omega) ?_
        refine e_subL ?_
        refine e_local ks__law_pairs k__law_pairs_ends (gl "ends" (by decide) _ me) ?_
        refine e_bin (e_bin (e_bin ?_))
        refine e_local ks__law_pairs k__law_pairs_k mk' ?_
        refine e_local ks__law_pairs k__law_pairs_turn (gl "turn" (by decide) _ mtn) ?_
        refine i_sub fun _ => ?_
        refine e_local ks__law_pairs k__law_pairs_sending (gl "sending" (by decide) _ msd) ?_
        refine i_sub fun _ => ?_
        refine e_int fun _ => ?_
        refine i_mod (by decide) fun tq => ?_
        have ez : (0 + (i : Int) - tn - sd).fmod 3 = ((i : Nat) + z) % 3 := by rw [fmod_pos (by decide), ← hz]; congr 1; omega
        refine (Eq.symm ez) ▸ ?_
        have h0 := Int.emod_nonneg ((i : Nat) + z) (show (3 : Int) ≠ 0 by decide)
        have h3 := Int.emod_lt_of_pos ((i : Nat) + z) (show (0 : Int) < 3 by decide)
        have hen : en z ls.length i = endOf (((i : Nat) + z) % 3) := if_pos h2
        rw [hen] at hQ
        generalize (((i : Nat) : Int) + z) % 3 = q at *
        have hget : (txV [([10], e1), ([13], e2), ([13, 10], e3)])[q.toNat]? = some (mkS (endOf q) (if q = 0 then e1 else if q = 1 then e2 else e3)) := by
          have : q = 0 ∨ q = 1 ∨ q = 2 := by omega
          rcases this with rfl | rfl | rfl <;> rfl
        exact subI el eo _ q tq _ he' heo.lo h0 (by omega) hget (hQ _)
      · refine if_f3 (show decide ((0 + (i : Int)) < ((txV Ls).length : Int) - 1) = false by simp; omega) ?_
        have hen : en z ls.length i = [] := if_neg h2
        rw [hen] at hQ
        exact e_strS [] rfl hQ
    refine ex_assignL ks__law_pairs k__law_pairs_end ?_
    refine hend fun ke => ?_
    have gl2 : ∀ x : String, x ∉ ["text", "raw", "feed", "end", "k"] → ∀ v, m (Str.ofString x) = some v → upd (upd m' (Str.ofString "k") (.int (0 + i) tk)) (Str.ofString "end") (mkS (en z ls.length i) ke) (Str.ofString x) = some v := fun x hx v hv => ((hs.upd (x := "k") (by decide)).upd (x := "end") (by decide) x hx).trans hv
    refine ex_assignL ks__law_pairs k__law_pairs_raw ?_
    refine e_bin (e_bin ?_)
    refine e_local ks__law_pairs k__law_pairs_raw (v := mkS W k2) (by kwd_inv) ?_
    refine e_ifexp ?_
    refine t_name ?_
    refine e_local ks__law_pairs k__law_pairs_feed (v := .bool f) (by kwd_inv) ?_
    refine truthy_b ?_
    have pick : ∀ {Q : Value → Loc → Led → Prop}, (∀ k, Q (mkS (if f then duo ls[i] else ls[i]) k) (upd (upd m' (Str.ofString "k") (.int (0 + i) tk)) (Str.ofString "end") (mkS (en z ls.length i) ke)) N') → WB g0 A (fun _ _ => False) h₀ L (upd (upd m' (Str.ofString "k") (.int (0 + i) tk)) (Str.ofString "end") (mkS (en z ls.length i) ke)) N' (eval (if f then ifA (binR (binL (asgVal ((loopBody textFor).getD 1 (.Pass default))))) else ifB (binR (binL (asgVal ((loopBody textFor).getD 1 (.Pass default)))))) (envX cn (scopeOf 27) L a0 ccd cl)) Q := by
      intro Q hQ
      cases f with
      | true =>
        show WB _ _ _ _ _ _ _ (eval (.Subscript (.Name _ _) (.Name _ _) _) _) _
        refine e_subL ?_
        refine e_local ks__law_pairs k__law_pairs_due (gl2 "due" (by decide) _ md) ?_
        refine e_local ks__law_pairs k__law_pairs_k (v := .int (0 + i) tk) (by kwd_inv) ?_
        exact subI du do_ _ _ tk _ hd' hdo.lo (by omega) (by omega) (by rw [show (0 + (i : Int)).toNat = i by omega]; exact hDi) (hQ _)
      | false =>
        show WB _ _ _ _ _ _ _ (eval (.Subscript (.Name _ _) (.Name _ _) _) _) _
        refine e_subL ?_
        refine e_local ks__law_pairs k__law_pairs_lines (gl2 "lines" (by decide) _ ml) ?_
        refine e_local ks__law_pairs k__law_pairs_k (v := .int (0 + i) tk) (by kwd_inv) ?_
        exact subI ll lo _ _ tk _ hl' hlo.lo (by omega) (by omega) (by rw [show (0 + (i : Int)).toNat = i by omega]; exact hLi) (hQ _)
    refine pick fun kp => ?_
    refine ss_add (by omega) fun kr => ?_
    refine e_local ks__law_pairs k__law_pairs_end (v := mkS (en z ls.length i) ke) (by kwd_inv) ?_
    refine ss_add (by rw [List.length_append]; omega) fun kr2 => ?_
    refine ex_assignL ks__law_pairs k__law_pairs_text ?_
    refine e_callf G ks__law_pairs k__law_pairs_concat (f := 107) (i := 14) (by decide) rfl ?_
    refine args_cons (e_local ks__law_pairs k__law_pairs_text (v := mkS T k1) (by kwd_inv) ?_)
    refine args_cons ?_
    refine e_callf G ks__law_pairs k__law_pairs_concat (f := 107) (i := 14) (by decide) rfl ?_
    refine args_cons ?_
    refine e_subL ?_
    have gl3 : ∀ x : String, x ∉ ["text", "raw", "feed", "end", "k"] → ∀ v, m (Str.ofString x) = some v → ∀ v', upd (upd (upd m' (Str.ofString "k") (.int (0 + i) tk)) (Str.ofString "end") (mkS (en z ls.length i) ke)) (Str.ofString "raw") v' (Str.ofString x) = some v := fun x hx v hv v' => (((hs.upd (x := "k") (by decide)).upd (x := "end") (by decide)).upd (x := "raw") (by decide) x hx).trans hv
    refine e_local ks__law_pairs k__law_pairs_lines (gl3 "lines" (by decide) _ ml _) ?_
    refine e_local ks__law_pairs k__law_pairs_k (v := .int (0 + i) tk) (by kwd_inv) ?_
    refine subI ll lo _ _ tk _ hl' hlo.lo (by omega) (by omega) (by rw [show (0 + (i : Int)).toNat = i by omega]; exact hLi) ?_
    refine args_cons (e_local ks__law_pairs k__law_pairs_end (v := mkS (en z ls.length i) ke) (by kwd_inv) ?_)
    refine args_nil ?_
    refine WB.callK G (fun s' O' at' => f_concatS O' (Rd.le (by omega)) (by omega)) fun kc new => ?_
    refine args_nil ?_
    refine WB.callK G (fun s' O' at' => f_concatS O' (Rd.le (by omega)) (by rw [List.length_append]; omega)) fun kc2 new2 => ?_
    refine ex_assignL ks__law_pairs k__law_pairs_feed ?_
    refine e_cmp ?_
    refine e_local ks__law_pairs k__law_pairs_end (v := mkS (en z ls.length i) ke) (by kwd_inv) ?_
    refine e_strS [13] rfl fun kx => ?_
    refine ss_ne ?_
    refine ex_nil ⟨((((hs.upd (x := "k") (by decide)).upd (x := "end") (by decide)).upd (x := "raw") (by decide)).upd (x := "text") (by decide)).upd (x := "feed") (by decide), fun p hp => by simp [hN p hp], exI5 _ _ _ kc2 kr2 ⟨by kwd_inv, by kwd_inv, by kwd_inv, ?_, ?_⟩⟩
    · rw [← eT]; simp
    · rw [← eW]; simp
  · intro m' N' e_4
    refine anE3 e_4 fun hs hN h_0 => exE5 h_0 fun T W f k1 k2 h_1 => anE5 h_1 fun mx' mw' mf' eT eW => ?_
    clear h_0 h_1 e_4
    rw [List.drop_eq_nil_of_le (by omega)] at eT eW
    simp only [mt, mr, List.append_nil] at eT eW
    subst eT eW
    exact h m' N' k1 k2 hs hN mx' mw'
end htext_loop
theorem text_loop {g0 mg mb A h₀ L m N cn a0 ccd cl rest Q ll du el lo do_ eo Ls Ds e1 e2 e3 t1 t2 t3 t4 t5 tn sd} : htext_loop.st_ g0 mg mb A h₀ L m N cn a0 ccd cl rest Q ll du el lo do_ eo Ls Ds e1 e2 e3 t1 t2 t3 t4 t5 tn sd := Mine.hk htext_loop.ne_ (P := htext_loop.Q_) htext_loop.main_ (((((g0, mg), (mb, A)), ((h₀, L), (m, N))), (((cn, a0), (ccd, cl)), ((rest, Q), (ll, du)))), ((((el, lo), (do_, eo)), ((Ls, Ds), (e1, e2))), (((e3, t1), (t2, t3)), ((t4, t5), (tn, sd)))))
section
variable {prog : Program} {w : World} {g0 : Cx} {mg mb : Loc} {A : Around} {E : Value → Shared → Prop} {s : Shared} {h₀ : Heap} {L : Addr} {m : Loc} {N : Led}
end
end Mine

end

section
open PySem PySem.W PyProof.Rows
namespace Mine
open Builtin.Int (intBits)
noncomputable def putBy {α : Type} (Rs : List α) (ds : List Int) (v : Int) (i : Nat) : List α := (List.range i).flatMap fun k => if ds[k]? = some v then Rs.take k else []
theorem putBy_succ {α : Type} (Rs : List α) (ds : List Int) (v : Int) (i : Nat) : putBy Rs ds v (i + 1) = putBy Rs ds v i ++ (if ds[i]? = some v then Rs.take i else []) := by
  unfold putBy
  rw [List.range_succ, List.flatMap_append]; simp
theorem putBy_len {α : Type} (Rs : List α) (ds : List Int) (v : Int) : ∀ i : Nat, (putBy Rs ds v i).length ≤ i * Rs.length
  | 0 => by simp [putBy]
  | i + 1 => by
    have := putBy_len Rs ds v i
    rw [putBy_succ, List.length_append, Nat.succ_mul]
    split
    · have := List.length_take_le i Rs
      simp only [List.length_take]; omega
    · simp; omega
theorem slice_upto_tx (ps : List (List Nat × Tok)) (k : Nat) : (slicePick (txV ps).toArray none (some (k : Int)) none).toList = txV (ps.take k) := by
  rw [slicePick_upto']
  show (List.map _ ps).take k = List.map _ (ps.take k)
  rw [List.map_take]
theorem slice_from_tx (ps : List (List Nat × Tok)) (k : Nat) : (slicePick (txV ps).toArray (some (k : Int)) none none).toList = txV (ps.drop k) := by
  rw [slicePick_from']
  show (List.map _ ps).drop k = List.map _ (ps.drop k)
  rw [List.map_drop]
section
variable {prog : Program} {w : World} {g0 : Cx} {mg mb : Loc} {A : Around} {E : Value → Shared → Prop} {s : Shared} {h₀ : Heap} {L : Addr} {m : Loc} {N : Led}
end
namespace htake_loop
noncomputable def st_ (g0 : Mine.Cx) (mg mb : Mine.Loc) (A : PySem.Around) (h₀ : PySem.Heap) (L : PySem.Addr) (m : Mine.Loc) (N : Mine.Led) (cn : PySem.Str) (a0 : PySem.Addr) (ccd : PySem.Value) (cl : List (PySem.Str × PySem.Addr)) (rest : List PySem.Stmt) (Q : PySem.Flow → Mine.Loc → Mine.Led → Prop) (rl dl pl : PySem.Addr) (ro dob po : PySem.Obj) (Rs Ps : List (List Nat × PySem.Tok)) (dvs : List PySem.Value) (ds : List Int) (t2 : PySem.Tok) (sd : Int) : Prop := ∀ (G : Gd mg mb h₀) (Rd : Room A 2) (hr : At h₀ N rl ro) (hro : LX ro (txV Rs)) (hd : At h₀ N dl dob) (hdo : LO dob dvs) (hI : Ints dvs ds) (hp : At h₀ N pl po) (hpo : LX po (txV Ps)) (hn : Rs.length = ds.length) (hn6 : ds.length ≤ 6) (hz : Ps.length ≤ 1000) (mrw : m (Str.ofString "rows") = some (.ref rl)) (md : m (Str.ofString "dots") = some (.ref dl)) (mp : m (Str.ofString "pairs") = some (.ref pl)) (msd : m (Str.ofString "sending") = some (.int sd t2)) (h : ∀ m' N' pl' po', SameBut ["pairs", "k"] m m' → (∀ p ∈ N, p ∈ N') → m' (Str.ofString "pairs") = some (.ref pl') → At h₀ N' pl' po' → LX po' (txV (Ps ++ putBy Rs ds (sd + 1) ds.length)) →
      WB g0 A (fun _ _ => False) h₀ L m' N' (execs rest (envX cn (scopeOf 27) L a0 ccd cl)) Q), WB g0 A (fun _ _ => False) h₀ L m N (execs (takeFor :: rest) (envX cn (scopeOf 27) L a0 ccd cl)) Q
noncomputable abbrev T_ := ((((Mine.Cx × (Mine.Loc × Mine.Loc)) × (PySem.Around × (PySem.Heap × PySem.Addr))) × ((Mine.Loc × (Mine.Led × PySem.Str)) × ((PySem.Addr × PySem.Value) × ((List (PySem.Str × PySem.Addr)) × (List PySem.Stmt))))) × ((((PySem.Flow → Mine.Loc → Mine.Led → Prop) × (PySem.Addr × PySem.Addr)) × (PySem.Addr × (PySem.Obj × PySem.Obj))) × ((PySem.Obj × ((List (List Nat × PySem.Tok)) × (List (List Nat × PySem.Tok)))) × (((List PySem.Value) × (List Int)) × (PySem.Tok × Int)))))
theorem ne_ : Nonempty T_ := ⟨by repeat' (first | apply Prod.mk | exact default | exact nAr | exact nCx | exact nSh | constructor)⟩
noncomputable def Q_ (p : T_) : Prop := st_ p.1.1.1.1 p.1.1.1.2.1 p.1.1.1.2.2 p.1.1.2.1 p.1.1.2.2.1 p.1.1.2.2.2 p.1.2.1.1 p.1.2.1.2.1 p.1.2.1.2.2 p.1.2.2.1.1 p.1.2.2.1.2 p.1.2.2.2.1 p.1.2.2.2.2 p.2.1.1.1 p.2.1.1.2.1 p.2.1.1.2.2 p.2.1.2.1 p.2.1.2.2.1 p.2.1.2.2.2 p.2.2.1.1 p.2.2.1.2.1 p.2.2.1.2.2 p.2.2.2.1.1 p.2.2.2.1.2 p.2.2.2.2.1 p.2.2.2.2.2
noncomputable def w_ : T_ := @Classical.epsilon _ ne_ fun p => ¬ Q_ p
noncomputable def h₀ := w_.1.1.2.2.1
noncomputable def m := w_.1.2.1.1
noncomputable def N := w_.1.2.1.2.1
noncomputable def rl := w_.2.1.1.2.1
noncomputable def dl := w_.2.1.1.2.2
noncomputable def pl := w_.2.1.2.1
noncomputable def ro := w_.2.1.2.2.1
noncomputable def dob := w_.2.1.2.2.2
noncomputable def po := w_.2.2.1.1
noncomputable def Rs := w_.2.2.1.2.1
noncomputable def Ps := w_.2.2.1.2.2
noncomputable def dvs := w_.2.2.2.1.1
noncomputable def ds := w_.2.2.2.1.2
noncomputable def sd := w_.2.2.2.2.2
set_option maxHeartbeats 2000000 in
theorem main_ : st_ w_.1.1.1.1 w_.1.1.1.2.1 w_.1.1.1.2.2 w_.1.1.2.1 h₀ w_.1.1.2.2.2 m N w_.1.2.1.2.2 w_.1.2.2.1.1 w_.1.2.2.1.2 w_.1.2.2.2.1 w_.1.2.2.2.2 w_.2.1.1.1 rl dl pl ro dob po Rs Ps dvs ds w_.2.2.2.2.1 sd := by
  intro G Rd hr hro hd hdo hI hp hpo hn hn6 hz mrw md mp msd h
  show WB _ _ _ _ _ _ _ (execs (.For (.Name _ _) _ _ [] _ :: _) _) _
  have hdl := hI.length
  refine ex_forN 0 ds.length (fun i m' N' => SameBut ["pairs", "k"] m m' ∧ (∀ p ∈ N, p ∈ N') ∧ ∃ pl' po', m' (Str.ofString "pairs") = some (.ref pl') ∧ At h₀ N' pl' po' ∧ LX po' (txV (Ps ++ putBy Rs ds (sd + 1) i))) Rd.handled ks__law_pairs k__law_pairs_k (by decide) (by omega) ?_ ?_ ?_
  · refine e_callt G ks__law_pairs k__law_pairs_range (id := "range") (by decide) rfl ?_
    refine args_cons ?_
    refine e_callb G ks__law_pairs k__law_pairs_len (id := "len") (by decide) rfl ?_
    refine args_cons (e_local ks__law_pairs k__law_pairs_rows mrw ?_)
    refine args_nil ?_
    refine c_lenL hr hro.lo (by simp; omega) fun tl => ?_
    refine args_nil ?_
    refine c_range1 fun r t1 u1 v1 fr => rngI r _ t1 u1 v1 (.inr (.head _)) (by simp [hn]) (by simp) ⟨.refl _ _, fun p hp => .tail _ hp, exI2 pl po ⟨mp, hp.imp id (.tail _), by simpa [putBy] using hpo⟩⟩
  · intro i m' N' tk hi e_1
    refine anE3 e_1 fun hs hN h_0 => exE2 h_0 fun pl' po' h_1 => anE3 h_1 fun mp' hp' hpo' => ?_
    clear h_0 h_1 e_1
    have gl : ∀ x : String, x ∉ ["pairs", "k"] → ∀ v, m (Str.ofString x) = some v → upd m' (Str.ofString "k") (.int (0 + i) tk) (Str.ofString x) = some v := fun x hx v hv => (hs.upd (x := "k") (by decide) x hx).trans hv
    refine via fun ξ κ=>?_
    obtain ⟨dt, hdi⟩ : ∃ dt, dvs[i]? = some (.int ds[i] dt) := by
      have h1 := congrArg (fun l => l[i]?) hI
      simp only [List.getElem?_map, List.getElem?_eq_getElem hi, Option.map_some] at h1
      cases e : dvs[i]? with
      | none => rw [e] at h1; simp at h1
      | some v =>
        rw [e] at h1
        simp only [Option.map_some, Option.some.injEq] at h1
        cases v <;> simp [intOf] at h1
        exact ⟨_, by rw [h1]⟩
    refine κ ?_;clear κ ξ
    have hlen := putBy_len Rs ds (sd + 1) i
    have hl2 : i * Rs.length ≤ 6 * 6 := Nat.mul_le_mul (by omega) (by omega)
    show WB _ _ _ _ _ _ _ (execs (_ :: []) _) _
    refine ex_ifJ (fun m'' N'' => SameBut ["pairs", "k"] m m'' ∧ (∀ p ∈ N, p ∈ N'') ∧ ∃ pl' po', m'' (Str.ofString "pairs") = some (.ref pl') ∧ At h₀ N'' pl' po' ∧ LX po' (txV (Ps ++ putBy Rs ds (sd + 1) (i + 1)))) ?_ (fun m'' N'' j => ex_nil j)
    refine t_cmp ?_
    refine e_subL ?_
    refine e_local ks__law_pairs k__law_pairs_dots (gl "dots" (by decide) _ md) ?_
    refine e_local ks__law_pairs k__law_pairs_k (v := .int (0 + i) tk) (by kwd_inv) ?_
    refine subI dl dob _ _ tk _ (hd.imp id (hN _)) hdo (by omega) (by omega) (by rw [show (0 + (i : Int)).toNat = i by omega]; exact hdi) ?_
    refine e_bin ?_
    refine e_local ks__law_pairs k__law_pairs_sending (gl "sending" (by decide) _ msd) ?_
    repeat tb_rel
    by_cases hv : ds[i] = sd + 1
    · rw [show (ds[i] == sd + 1) = true by simpa using hv]
      show WB _ _ _ _ _ _ _ (execs (_ :: []) _) _
      refine ex_assignL ks__law_pairs k__law_pairs_pairs ?_
      refine e_callf G ks__law_pairs k__law_pairs_concat (f := 107) (i := 14) (by decide) rfl ?_
      refine args_cons (e_local ks__law_pairs k__law_pairs_pairs (v := .ref pl') (by kwd_inv) ?_)
      refine args_cons ?_
      refine e_slice ?_ (fun _ _ => .inr rfl)
      refine e_local ks__law_pairs k__law_pairs_rows (gl "rows" (by decide) _ mrw) ?_
      simp only [evalPart_some, evalPart_none]
      refine WB.pure ?_
      refine e_local ks__law_pairs k__law_pairs_k (v := .int (0 + i) tk) (by kwd_inv) ?_
      refine WB.pure ?_
      refine slcI rl ro _ _ _ _ (hr.imp id (hN _)) hro.lo (by simp; omega) .none (.int _ _) .none (by simp) (fun sx a sox fa => ?_)
      rw [show (some (0 + (i : Int)) : Option Int) = some ((i : Nat) : Int) by simp, slice_upto_tx]
      refine args_nil ?_
      refine WB.callS G (fun s' O' at' => f_concat_l O' (Rd.le (by omega)) (at' _ _ (hp'.imp id fun h => .tail _ (.tail _ h))) hpo' (at' _ _ (.inr (.head _))) (⟨0, rfl⟩ : LX (lstObj (txV (List.take i Rs))) (txV (List.take i Rs))) (by simp; omega)) fun v new hv _ => ?_
      refine via fun ξ κ=>?_
      obtain ⟨r, rob, e_2, hm, hX⟩ := hv
      refine κ ?_;clear κ ξ
      subst e_2
      refine ex_nil ⟨rfl, (hs.upd (x := "k") (by decide)).upd (x := "pairs") (by decide), fun p hp => by simp [hN p hp], exI2 r rob ⟨by kwd_inv, .inr (List.mem_append_left _ hm), ?_⟩⟩
      have e : txV (Ps ++ putBy Rs ds (sd + 1) i) ++ txV (Rs.take i) = txV (Ps ++ putBy Rs ds (sd + 1) (i + 1)) := by
        rw [putBy_succ, if_pos (by simp [hi, hv])]; simp [txV]
      rw [← e]; exact hX
    · rw [show (ds[i] == sd + 1) = false by simpa using hv]
      refine ex_nil ⟨rfl, hs.upd (x := "k") (by decide), hN, exI2 pl' po' ⟨by kwd_inv, hp', ?_⟩⟩
      rw [putBy_succ, if_neg (by simpa [hi] using hv), List.append_nil]; exact hpo'
  · intro m' N' e_3
    refine anE3 e_3 fun hs hN h_0 => exE2 h_0 fun pl' po' h_1 => anE3 h_1 fun mp' hp' hpo' => ?_
    clear h_0 h_1 e_3
    exact h m' N' pl' po' hs hN mp' hp' hpo'
end htake_loop
theorem take_loop {g0 mg mb A h₀ L m N cn a0 ccd cl rest Q rl dl pl ro dob po Rs Ps dvs ds t2 sd} : htake_loop.st_ g0 mg mb A h₀ L m N cn a0 ccd cl rest Q rl dl pl ro dob po Rs Ps dvs ds t2 sd := Mine.hk htake_loop.ne_ (P := htake_loop.Q_) htake_loop.main_ ((((g0, (mg, mb)), (A, (h₀, L))), ((m, (N, cn)), ((a0, ccd), (cl, rest)))), (((Q, (rl, dl)), (pl, (ro, dob))), ((po, (Rs, Ps)), ((dvs, ds), (t2, sd)))))
section
variable {prog : Program} {w : World} {g0 : Cx} {mg mb : Loc} {A : Around} {E : Value → Shared → Prop} {s : Shared} {h₀ : Heap} {L : Addr} {m : Loc} {N : Led}
end
end Mine

end

section
open PySem PySem.W PyProof.Rows
namespace Mine
open Builtin.Int (intBits)
noncomputable def Cons (C : List (List Nat × Tok)) (F : Nat) : Prop := ∀ p ∈ C, p.2 ≠ 0 ∧ p.2 < F ∧ ∀ q ∈ C, p.2 = q.2 → p.1 = q.1
theorem Cons.nil (F : Nat) : Cons [] F := fun p hp => nomatch hp
theorem Cons.add {C : List (List Nat × Tok)} {F : Nat} (h : Cons C F) {x : List Nat} {k : Nat} (h1 : F ≤ k) (h0 : 0 < k) : Cons ((x, k) :: C) (k + 1) := by
  intro p hp
  rcases List.mem_cons.mp hp with rfl | hp
  · refine ⟨Nat.ne_of_gt h0, Nat.lt_succ_self _, fun q hq e => ?_⟩
    rcases List.mem_cons.mp hq with rfl | hq
    · rfl
    · have := (h q hq).2.1
      have e' : k = q.2 := e
      rw [← e'] at this
      exact absurd this (Nat.not_lt.mpr h1)
  · refine anE3 (h p hp) fun a b c => ?_
    refine ⟨a, Nat.lt_of_lt_of_le b (Nat.le_trans h1 (Nat.le_succ _)), fun q hq e => ?_⟩
    rcases List.mem_cons.mp hq with rfl | hq
    · have e' : p.2 = k := e
      rw [e'] at b
      exact absurd b (Nat.not_lt.mpr h1)
    · exact c q hq e
noncomputable def rowsAt (mk : Nat) (ds : List Int) (s : Nat) : List (List Nat) := ds.map fun d => rowT mk (d.toNat + s)
noncomputable def pairsAt (mk : Nat) (ds : List Int) (s : Nat) : List (List Nat) := (List.range s).flatMap fun t => putBy (rowsAt mk ds (t + 1)) ds ((t : Int) + 1) ds.length
theorem pairsAt_succ (mk : Nat) (ds : List Int) (s : Nat) : pairsAt mk ds (s + 1) = pairsAt mk ds s ++ putBy (rowsAt mk ds (s + 1)) ds ((s : Int) + 1) ds.length := by
  unfold pairsAt
  rw [List.range_succ, List.flatMap_append]; simp
theorem putBy_map {α β : Type} (f : α → β) (Rs : List α) (ds : List Int) (v : Int) (n : Nat) : (putBy Rs ds v n).map f = putBy (Rs.map f) ds v n := by
  unfold putBy
  rw [List.map_flatMap]
  congr 1
  funext k
  split
  · rw [List.map_take]
  · rfl
theorem putBy_sub {α : Type} {Rs : List α} {ds : List Int} {v : Int} {n : Nat} {x : α} (h : x ∈ putBy Rs ds v n) : x ∈ Rs := by
  unfold putBy at h
  refine exE1 (List.mem_flatMap.mp h) fun k h_0 => anE2 h_0 fun _ hk => ?_
  clear h_0
  split at hk
  · exact List.mem_of_mem_take hk
  · cases hk
noncomputable def rotL {α : Type} (c : Nat) (l : List α) : List α := l.drop c ++ l.take c
theorem rot_back {α : Type} (c : Nat) (l : List α) (h : c ≤ l.length) : (rotL c l).drop (l.length - c) ++ (rotL c l).take (l.length - c) = l := by
  unfold rotL
  have e : l.length - c = (l.drop c).length := by simp
  rw [e, List.drop_left, List.take_left]; exact List.take_append_drop c l
structure SendJ (h₀ : Heap) (mk : Nat) (ds : List Int) (dl : Addr) (lc : Addr) (oc : Obj) (el : Addr) (eo : Obj) (tn : Int) (s : Nat) (m : Loc) (N : Led) : Prop where
  md : m (Str.ofString "dots") = some (.ref dl)
  mt : ∃ t, m (Str.ofString "turn") = some (.int tn t)
  me : m (Str.ofString "ends") = some (.ref el)
  he : (el, eo) ∈ N
  hc : (lc, oc) ∈ N
  rows : ∃ rl ro Rs pl po Ps C, m (Str.ofString "rows") = some (.ref rl) ∧ At h₀ N rl ro ∧ LX ro (txV Rs) ∧ Rs.map (·.1) = rowsAt mk ds s ∧ m (Str.ofString "pairs") = some (.ref pl) ∧ At h₀ N pl po ∧ LX po (txV Ps) ∧ Ps.map (·.1) = pairsAt mk ds s ∧
    Cons C (flo m) ∧ (∀ p ∈ Rs, p ∈ C) ∧ (∀ p ∈ Ps, p ∈ C)
theorem rowsAt_duo {mk : Nat} {ds : List Int} {s : Nat} (h : ∀ d ∈ ds, 1 ≤ d) : (rowsAt mk ds s).map duo = rowsAt mk ds (s + 1) := by
  unfold rowsAt
  rw [List.map_map]
  refine List.map_congr_left fun d hd => ?_
  have := h d hd
  show duo (rowT mk (d.toNat + s)) = _
  rw [rowT_duo (by omega)]; rfl
theorem rowsAt_mem {mk : Nat} {ds : List Int} {s : Nat} {l : List Nat} (h : l ∈ rowsAt mk ds s) : ∃ d ∈ ds, l = rowT mk (d.toNat + s) := by
  obtain ⟨d, hd, rfl⟩ := List.mem_map.mp h; exact ⟨d, hd, rfl⟩
theorem rowT_mem {mk n c : Nat} (h : c ∈ rowT mk n) : c = 46 ∨ c = mk := by
  unfold rowT at h
  rcases List.mem_append.mp h with h | h
  · exact .inl (List.eq_of_mem_replicate h)
  · exact .inr (List.mem_singleton.mp h)
noncomputable def mailOf (mk : Nat) (rows : List (List Nat)) : List (List Nat) := rows ++ [[], [46], [mk, 46]]
theorem mail_mem {mk : Nat} {ds : List Int} {s : Nat} {l : List Nat} {c : Nat} (h : l ∈ mailOf mk (rowsAt mk ds s)) (hc : c ∈ l) : c = 46 ∨ c = mk := by
  unfold mailOf at h
  rcases List.mem_append.mp h with h | h
  · obtain ⟨d, _, rfl⟩ := rowsAt_mem h; exact rowT_mem hc
  · simp only [List.mem_cons, List.not_mem_nil, or_false] at h
    rcases h with rfl | rfl | rfl
    · cases hc
    · simp at hc; exact .inl hc
    · simp at hc; omega
theorem rot_mem {α : Type} {c : Nat} {l : List α} {x : α} (h : x ∈ rotL c l) : x ∈ l := by
  unfold rotL at h
  rcases List.mem_append.mp h with h | h
  · exact List.mem_of_mem_drop h
  · exact List.mem_of_mem_take h
theorem duo_mem {l : List Nat} {c : Nat} (h : c ∈ duo l) : c = 46 ∨ c ∈ l := by
  unfold duo at h; split at h
  · rcases List.mem_cons.mp h with h | h
    · exact .inl h
    · exact .inr h
  · exact .inr h
theorem mail_len {mk : Nat} {ds : List Int} {s K : Nat} {l : List Nat} (hd : ∀ d ∈ ds, d.toNat + s ≤ K) (h : l ∈ mailOf mk (rowsAt mk ds s)) : l.length ≤ K + 2 := by
  unfold mailOf at h
  rcases List.mem_append.mp h with h | h
  · refine exE1 (rowsAt_mem h) fun d h_0 => anE2 h_0 fun hd' e_1 => ?_
    clear h_0
    subst e_1
    have := hd d hd'
    simp [rowT]; omega
  · simp only [List.mem_cons, List.not_mem_nil, or_false] at h
    rcases h with rfl | rfl | rfl <;> simp
theorem sum_le {ls : List (List Nat)} {K : Nat} (h : ∀ l ∈ ls, l.length ≤ K) : (ls.map (·.length)).sum ≤ ls.length * K := by
  induction ls with
  | nil => simp
  | cons l r ih =>
    have := h l (.head _)
    have := ih fun x hx => h x (.tail _ hx)
    rw [List.map_cons, List.sum_cons, List.length_cons, Nat.succ_mul]; omega
theorem mr_len (z : Int) : ∀ (ls : List (List Nat)) (k : Nat) (b : Bool), (mr z b k ls).length ≤ (ls.map (·.length)).sum + 3 * ls.length
  | [], _, _ => Nat.zero_le _
  | [l], _, b => by
    have := duo_len l
    cases b <;> simp [mr] <;> omega
  | l :: m :: r, k, b => by
    have := mr_len z (m :: r) (k + 1) (endOf (((k : Int) + z) % 3) != [13])
    have he := endOf_len (((k : Int) + z) % 3)
    have := duo_len l
    rw [mr]
    have h0 : (if b = true then duo l else l).length ≤ l.length + 1 := by cases b <;> simp <;> omega
    simp only [List.length_append, List.length_cons, List.map_cons, List.sum_cons] at this ⊢
    simp only [List.length_cons, List.map_cons, List.sum_cons] at *
    omega
end Mine

end

section
open PySem PySem.W PyProof.Rows
namespace Mine
open Builtin.Int (intBits)
theorem pairsAt_len (mk : Nat) (ds : List Int) (h : ds.length ≤ 6) : ∀ s : Nat, (pairsAt mk ds s).length ≤ 36 * s
  | 0 => by simp [pairsAt]
  | s + 1 => by
    have h1 := pairsAt_len mk ds h s
    have h2 := putBy_len (rowsAt mk ds (s + 1)) ds ((s : Int) + 1) ds.length
    have h3 : (rowsAt mk ds (s + 1)).length = ds.length := by simp [rowsAt]
    have h4 : ds.length * (rowsAt mk ds (s + 1)).length ≤ 6 * 6 := by rw [h3]; exact Nat.mul_le_mul h h
    rw [pairsAt_succ, List.length_append]; omega
theorem rowT_take {mk n : Nat} (h : 1 ≤ n) : (rowT mk n).take 1 = [46] := by
  refine via fun ξ κ=>?_
  obtain ⟨k, e_1⟩ : ∃ k, n = k + 1 := ⟨n - 1, by omega⟩
  refine κ ?_;clear κ ξ
  subst e_1
  unfold rowT; rw [List.replicate_succ]; rfl
section
variable {prog : Program} {w : World} {g0 : Cx} {mg mb : Loc} {A : Around} {E : Value → Shared → Prop} {s : Shared} {h₀ : Heap} {L : Addr} {m : Loc} {N : Led}
end
namespace hsend_rest
noncomputable def st_ (g0 : Mine.Cx) (mg mb : Mine.Loc) (A : PySem.Around) (h₀ : PySem.Heap) (L : PySem.Addr) (m : Mine.Loc) (N : Mine.Led) (cn : PySem.Str) (a0 : PySem.Addr) (ccd : PySem.Value) (mk : Nat) (ds : List Int) (dvs : List PySem.Value) (dl lc el ll du rl pl : PySem.Addr) (dob oc eo ro po : PySem.Obj) (e1 e2 e3 tk tt tc k1 k2 : PySem.Tok) (tn : Int) (sd c : Nat) (Ls Dd Rs Ps C : List (List Nat × PySem.Tok)) (cl : List (PySem.Str × PySem.Addr)) (lo do_ : PySem.Obj) : Prop := ∀ (G : Gd mg mb h₀) (Rd : Room A 4) (hd : h₀.get? dl = some dob) (hdo : LO dob dvs) (hI : Ints dvs ds) (hds : ∀ d ∈ ds, 1 ≤ d ∧ d ≤ 7) (hn : 1 ≤ ds.length) (hn6 : ds.length ≤ 6) (hmk : mk < 55296 ∧ mk ≠ 46 ∧ mk ≠ 10 ∧ mk ≠ 13) (heo : LX eo (txV [([10], e1), ([13], e2), ([13, 10], e3)])) (hsd : sd < 7) (hc : c < ds.length + 3) (hLs : Ls.map (·.1) = rotL c (mailOf mk (rowsAt mk ds sd))) (hDd : Dd.map (·.1) = (Ls.map (·.1)).map duo) (hDC : ∀ p ∈ Dd, p.1.take 1 = [46] → p ∈ C) (hC : Cons C (flo m)) (hPC : ∀ p ∈ Ps, p ∈ C) (hPs : Ps.map (·.1) = pairsAt mk ds sd) (x1 : m (Str.ofString "lines") = some (.ref ll)) (x2 : m (Str.ofString "due") = some (.ref du)) (x3 : m (Str.ofString "ends") = some (.ref el)) (x4 : m (Str.ofString "turn") = some (.int tn tt)) (x5 : m (Str.ofString "sending") = some (.int (0 + sd) tk)) (x6 : m (Str.ofString "dots") = some (.ref dl)) (x7 : m (Str.ofString "rows") = some (.ref rl)) (x8 : m (Str.ofString "pairs") = some (.ref pl)) (x9 : m (Str.ofString "cut") = some (.int c tc)) (hl : (ll, lo) ∈ N) (hlo : LX lo (txV Ls)) (hdu : (du, do_) ∈ N) (hduo : LX do_ (txV Dd)) (he : (el, eo) ∈ N) (hlc : (lc, oc) ∈ N) (hrl : At h₀ N rl ro) (hro : LX ro (txV Rs)) (hRl : Rs.length = ds.length) (hpl : At h₀ N pl po) (hpo : LX po (txV Ps)), WB g0 A (fun _ _ => False) h₀ L m N (execs (sendBody.drop 4) (envX cn (scopeOf 27) L a0 ccd cl)) fun f m' N' => f = .next ∧ SendJ h₀ mk ds dl lc oc el eo tn (sd + 1) m' N'
noncomputable abbrev T_ := (((((Mine.Cx × Mine.Loc) × (Mine.Loc × (PySem.Around × PySem.Heap))) × ((PySem.Addr × (Mine.Loc × Mine.Led)) × (PySem.Str × (PySem.Addr × PySem.Value)))) × (((Nat × (List Int)) × ((List PySem.Value) × (PySem.Addr × PySem.Addr))) × ((PySem.Addr × (PySem.Addr × PySem.Addr)) × (PySem.Addr × (PySem.Addr × PySem.Obj))))) × ((((PySem.Obj × PySem.Obj) × (PySem.Obj × (PySem.Obj × PySem.Tok))) × ((PySem.Tok × (PySem.Tok × PySem.Tok)) × (PySem.Tok × (PySem.Tok × PySem.Tok)))) × (((PySem.Tok × (Int × Nat)) × (Nat × ((List (List Nat × PySem.Tok)) × (List (List Nat × PySem.Tok))))) × (((List (List Nat × PySem.Tok)) × ((List (List Nat × PySem.Tok)) × (List (List Nat × PySem.Tok)))) × ((List (PySem.Str × PySem.Addr)) × (PySem.Obj × PySem.Obj))))))
theorem ne_ : Nonempty T_ := ⟨by repeat' (first | apply Prod.mk | exact default | exact nAr | exact nCx | exact nSh | constructor)⟩
noncomputable def Q_ (p : T_) : Prop := st_ p.1.1.1.1.1 p.1.1.1.1.2 p.1.1.1.2.1 p.1.1.1.2.2.1 p.1.1.1.2.2.2 p.1.1.2.1.1 p.1.1.2.1.2.1 p.1.1.2.1.2.2 p.1.1.2.2.1 p.1.1.2.2.2.1 p.1.1.2.2.2.2 p.1.2.1.1.1 p.1.2.1.1.2 p.1.2.1.2.1 p.1.2.1.2.2.1 p.1.2.1.2.2.2 p.1.2.2.1.1 p.1.2.2.1.2.1 p.1.2.2.1.2.2 p.1.2.2.2.1 p.1.2.2.2.2.1 p.1.2.2.2.2.2 p.2.1.1.1.1 p.2.1.1.1.2 p.2.1.1.2.1 p.2.1.1.2.2.1 p.2.1.1.2.2.2 p.2.1.2.1.1 p.2.1.2.1.2.1 p.2.1.2.1.2.2 p.2.1.2.2.1 p.2.1.2.2.2.1 p.2.1.2.2.2.2 p.2.2.1.1.1 p.2.2.1.1.2.1 p.2.2.1.1.2.2 p.2.2.1.2.1 p.2.2.1.2.2.1 p.2.2.1.2.2.2 p.2.2.2.1.1 p.2.2.2.1.2.1 p.2.2.2.1.2.2 p.2.2.2.2.1 p.2.2.2.2.2.1 p.2.2.2.2.2.2
noncomputable def w_ : T_ := @Classical.epsilon _ ne_ fun p => ¬ Q_ p
noncomputable def m := w_.1.1.2.1.2.1
noncomputable def N := w_.1.1.2.1.2.2
noncomputable def mk := w_.1.2.1.1.1
noncomputable def ds := w_.1.2.1.1.2
noncomputable def du := w_.1.2.2.1.2.2
noncomputable def e1 := w_.2.1.1.2.2.2
noncomputable def e2 := w_.2.1.2.1.1
noncomputable def e3 := w_.2.1.2.1.2.1
noncomputable def tk := w_.2.1.2.1.2.2
noncomputable def tt := w_.2.1.2.2.1
noncomputable def tn := w_.2.2.1.1.2.1
noncomputable def sd := w_.2.2.1.1.2.2
noncomputable def c := w_.2.2.1.2.1
noncomputable def Ls := w_.2.2.1.2.2.1
noncomputable def Dd := w_.2.2.1.2.2.2
noncomputable def Rs := w_.2.2.2.1.1
noncomputable def Ps := w_.2.2.2.1.2.1
noncomputable def C := w_.2.2.2.1.2.2
noncomputable def lo := w_.2.2.2.2.2.1
noncomputable def do_ := w_.2.2.2.2.2.2
set_option maxHeartbeats 1000000 in
theorem main_ : st_ w_.1.1.1.1.1 w_.1.1.1.1.2 w_.1.1.1.2.1 w_.1.1.1.2.2.1 w_.1.1.1.2.2.2 w_.1.1.2.1.1 m N w_.1.1.2.2.1 w_.1.1.2.2.2.1 w_.1.1.2.2.2.2 mk ds w_.1.2.1.2.1 w_.1.2.1.2.2.1 w_.1.2.1.2.2.2 w_.1.2.2.1.1 w_.1.2.2.1.2.1 du w_.1.2.2.2.1 w_.1.2.2.2.2.1 w_.1.2.2.2.2.2 w_.2.1.1.1.1 w_.2.1.1.1.2 w_.2.1.1.2.1 w_.2.1.1.2.2.1 e1 e2 e3 tk tt w_.2.1.2.2.2.1 w_.2.1.2.2.2.2 w_.2.2.1.1.1 tn sd c Ls Dd Rs Ps C w_.2.2.2.2.1 lo do_ := by
  intro G Rd hd hdo hI hds hn hn6 hmk heo hsd hc hLs hDd hDC hC hPC hPs x1 x2 x3 x4 x5 x6 x7 x8 x9 hl hlo hdu hduo he hlc hrl hro hRl hpl hpo
  have hMl : (mailOf mk (rowsAt mk ds sd)).length = ds.length + 3 := by simp [mailOf, rowsAt]
  have hLl : Ls.length = ds.length + 3 := by
    have := congrArg List.length hLs
    rw [List.length_map] at this
    rw [this]; unfold rotL; rw [List.length_append, List.length_drop, List.length_take, hMl]; omega
  have hDl : Dd.length = ds.length + 3 := by
    have := congrArg List.length hDd
    simpa [hLl] using this
  have hmem : ∀ l ∈ Ls.map (·.1), ∀ x ∈ l, x = 46 ∨ x = mk := fun l hl x hx => by
    rw [hLs] at hl
    exact mail_mem (rot_mem hl) hx
  have hclean : ∀ l ∈ Ls.map (·.1), 13 ∉ l ∧ 10 ∉ l := fun l hl => ⟨fun h => by have := hmem l hl 13 h; omega, fun h => by have := hmem l hl 10 h; omega⟩
  have hllen : ∀ l ∈ Ls.map (·.1), l.length ≤ 17 := fun l hl => by
    rw [hLs] at hl
    exact Nat.le_trans (mail_len (K := 14) (fun d hd => by have := hds d hd; omega) (rot_mem hl)) (by omega)
  have hsum := sum_le hllen
  rw [List.length_map, hLl] at hsum
  have hsum2 : (ds.length + 3) * 17 ≤ 9 * 17 := Nat.mul_le_mul_right _ (by omega)
  have hml := mt_len (-tn - (0 + (sd : Int))) (Ls.map (·.1)) 0
  have hrml := mr_len (-tn - (0 + (sd : Int))) (Ls.map (·.1)) 0 true
  rw [List.length_map, hLl] at hml hrml
  show WB _ _ _ _ _ _ _ (execs (_ :: _ :: _ :: textFor :: _ :: _ :: _ :: _ :: _ :: []) _) _
  refine ex_assignL ks__law_pairs k__law_pairs_text (e_strS [] rfl fun t1 => ?_)
  refine ex_assignL ks__law_pairs k__law_pairs_raw (e_strS [] rfl fun t2 => ?_)
  refine ex_assignL ks__law_pairs k__law_pairs_feed (e_bool ?_)
  refine text_loop (t5 := 0) (tn := tn) (sd := 0 + sd) G (Rd.le (by omega)) (.inr hl) hlo (.inr hdu) hduo (.inr he) heo hDd (by omega) (by kwd_inv) (by kwd_inv) (by kwd_inv) (t1 := tt) (by kwd_inv) (t2 := tk) (by kwd_inv) (t3 := t1) (by kwd_inv) (t4 := t2) (by kwd_inv) (by kwd_inv) (by omega) (by omega) fun m4 N4 kx kw hs4 hN4 mx4 mw4 => ?_
  have g4 : ∀ x : String, x ∉ ["text", "raw", "feed", "end", "k"] → ∀ v, m (Str.ofString x) = some v → m4 (Str.ofString x) = some v := fun x hx v hv => by
    refine (Eq.symm (hs4 x hx)) ▸ ?_
    exact (((SameBut.refl ["text", "raw", "feed", "end", "k"] m).upd (x := "text") (by decide)).upd (x := "raw") (by decide)).upd (x := "feed") (by decide) x hx |>.trans hv
  have f4 : flo m4 = flo m := by
    refine (Eq.symm (hs4.flo (by decide))) ▸ ?_
    exact ((((SameBut.refl ["text", "raw", "feed", "end", "k"] m).upd (x := "text") (by decide)).upd (x := "raw") (by decide)).upd (x := "feed") (by decide)).flo (by decide)
  have y5 := g4 "sending" (by decide) _ x5
  generalize hz : -tn - (0 + (sd : Int)) = z at *
  generalize hT : mt z 0 (Ls.map (·.1)) = T at *
  have hTc : ∀ x ∈ T, x < 55296 := by
    refine hT ▸ ?_
    exact mt_mem z (P := fun x => x < 55296) (by omega) (by omega) _ 0 fun l hl x hx => by have := hmem l hl x hx; omega
  have hfix : fixE false T = crlf (Ls.map (·.1)) := by rw [← hT]; exact fix_mt z _ 0 false hclean (fun h => by cases h)
  have hquo : quo true (fixE false T) = crlf (Dd.map (·.1)) := by rw [hfix, quo_crlf _ (fun l hl => (hclean l hl).2), hDd]
  have hraw : quo true T = mr z true 0 (Ls.map (·.1)) := by rw [← hT]; exact quo_mt z _ 0 true fun l hl => (hclean l hl).2
  have hTne : T ≠ [] := by
    intro e
    have : (crlf (Ls.map (·.1))) = [] := by rw [← hfix, e]; rfl
    match hL : Ls.map (·.1) with
    | [] => have := congrArg List.length hL; simp [hLl] at this
    | [l] => have := congrArg List.length hL; simp [hLl] at this
    | l :: m :: r => rw [hL] at this; have h2 := crlf_two l m r; rw [this] at h2; simp at h2
  refine ex_ifJ (fun m' N' => SameBut ["told"] m4 m' ∧ (∀ p ∈ N4, p ∈ N') ∧ ∃ k, m' (Str.ofString "told") = some (mkS (crlf (Dd.map (·.1))) k)) ?_ ?_
  · refine t_cmp ?_
    refine e_bin ?_
    refine e_local ks__law_pairs k__law_pairs_sending y5 ?_
    refine e_int fun _ => ?_
    refine i_mod (by decide) fun _ => ?_
    refine e_int fun _ => ?_
    refine i_eq (truthy_b ?_)
    cases hb : ((0 + (sd : Int)).fmod 2 == 0) with
    | true =>
      show WB _ _ _ _ _ _ _ (execs (_ :: []) _) _
      refine ex_assignL ks__law_pairs k__law_pairs_told ?_
      refine e_callf G ks__law_pairs k__law_pairs_quotedata (f := 143) (i := 22) (by decide) rfl ?_
      refine args_cons (e_local ks__law_pairs k__law_pairs_text mx4 ?_)
      refine args_nil ?_
      refine WB.callK G (fun s' O' at' => f_quote O' (Rd.le (by omega)) (by omega)) fun k new => ?_
      rw [hquo]
      exact ex_nil ⟨rfl, (SameBut.refl _ _).upd (by decide), fun p hp => List.mem_append_right _ hp, k, by kwd_inv⟩
    | false =>
      show WB _ _ _ _ _ _ _ (execs (_ :: _ :: []) _) _
      refine ex_if ?_
      refine t_cmp ?_
      refine e_meth rfl rfl rfl ?_
      refine e_callf G ks__law_pairs k__law_pairs__quote_periods (f := 150) (i := 23) (by decide) rfl ?_
      refine args_cons ?_
      refine e_meth attrBase_name rfl rfl ?_
      refine e_local ks__law_pairs k__law_pairs_text mx4 ?_
      intro pl1
      refine g_enc ?_
      refine call_b1 rfl ?_
      refine args_cons (e_str fun _ => ?_)
      refine args_nil ?_
      refine c_enc hTc (by omega) fun kb => ?_
      refine args_nil ?_
      refine WB.callK G (fun s' O' at' => f_qp O' (Rd.le (by omega)) (octs_lt T) (by have := octs_len T; omega)) fun kq new => ?_
      refine (Eq.symm (octs_quo T true hTc)) ▸ ?_
      intro pl2
      refine g_dec ?_
      refine call_b1 rfl ?_
      refine args_cons (e_str fun _ => ?_)
      refine args_nil ?_
      have hql := quo_len T true
      refine c_dec (fun e => ?_) (quo_mem (P := fun x => x < 55296) (by decide) T true hTc) (by omega) fun kd => ?_
      · cases hT2 : T with
        | nil => exact hTne hT2
        | cons x T' => rw [hT2] at e; unfold quo at e; split at e <;> cases e
      refine e_local ks__law_pairs k__law_pairs_raw mw4 ?_
      rw [hraw]
      refine ss_ne (truthy_b ?_)
      rw [bne_self_eq_false]
      show WB _ _ _ _ _ _ _ (execs (_ :: []) _) _
      refine ex_assignL ks__law_pairs k__law_pairs_told ?_
      refine e_meth rfl rfl rfl ?_
      refine e_callf G ks__law_pairs k__law_pairs__quote_periods (f := 150) (i := 23) (by decide) rfl ?_
      refine args_cons ?_
      refine e_meth rfl rfl rfl ?_
      refine e_callf G ks__law_pairs k__law_pairs__fix_eols (f := 157) (i := 24) (by decide) rfl ?_
      refine args_cons (e_local ks__law_pairs k__law_pairs_text mx4 ?_)
      refine args_nil ?_
      refine WB.callK G (fun s' O' at' => f_fix O' (Rd.le (by omega)) (by omega)) fun kf new3 => ?_
      intro pl3
      have hFc : ∀ x ∈ fixE false T, x < 55296 := fix_mem (P := fun x => x < 55296) (by decide) (by decide) T false hTc
      have hFl := fix_len T false
      refine g_enc ?_
      refine call_b1 rfl ?_
      refine args_cons (e_str fun _ => ?_)
      refine args_nil ?_
      refine c_enc hFc (by omega) fun kb => ?_
      refine args_nil ?_
      refine WB.callK G (fun s' O' at' => f_qp O' (Rd.le (by omega)) (octs_lt _) (by have := octs_len (fixE false T); omega)) fun kq2 new4 => ?_
      refine (Eq.symm (octs_quo _ true hFc)) ▸ ?_
      intro pl4
      refine g_dec ?_
      refine call_b1 rfl ?_
      refine args_cons (e_str fun _ => ?_)
      refine args_nil ?_
      have hql2 := quo_len (fixE false T) true
      refine c_dec (fun e => ?_) (quo_mem (P := fun x => x < 55296) (by decide) _ true hFc) (by omega) fun kd2 => ?_
      · cases hT2 : fixE false T with
        | nil =>
          rw [hfix] at hT2
          match hL : Ls.map (·.1) with
          | [] => have := congrArg List.length hL; simp [hLl] at this
          | [l] => have := congrArg List.length hL; simp [hLl] at this
          | l :: m :: r => rw [hL] at hT2; have h2 := crlf_two l m r; rw [hT2] at h2; simp at h2
        | cons x T' => rw [hT2] at e; unfold quo at e; split at e <;> cases e
      refine (Eq.symm hquo) ▸ ?_
      exact ex_nil ⟨rfl, (SameBut.refl _ _).upd (by decide), fun p hp => by simp [hp], kd2, by kwd_inv⟩
  intro m5 N5 e_6
  refine via fun ξ κ=>?_
  obtain ⟨hs5, hN5, kt, mt5⟩ := e_6
  refine κ ?_;clear κ ξ
  have g5 : ∀ x : String, x ∉ ["text", "raw", "feed", "end", "k", "told"] → ∀ v, m (Str.ofString x) = some v → m5 (Str.ofString x) = some v := fun x hx v hv => by
    refine (Eq.symm (hs5 x (fun h => hx (by simp only [List.mem_singleton] at h; rw [h]; decide)))) ▸ ?_
    exact g4 x (fun h => hx (List.mem_append_left ["told"] h)) v hv
  have f5 : flo m5 = flo m := (hs5.flo (by decide)).trans f4
  have N05 : ∀ p ∈ N, p ∈ N5 := fun p hp => hN5 p (hN4 p hp)
  have hDm : ∀ p ∈ Dd, ∀ x ∈ p.1, x = 46 ∨ x = mk := fun p hp x hx => by
    have h1 : p.1 ∈ Dd.map (·.1) := List.mem_map_of_mem hp
    rw [hDd] at h1
    refine exE1 (List.mem_map.mp h1) fun l h_0 => anE2 h_0 fun hl e => ?_
    clear h_0
    rw [← e] at hx
    rcases duo_mem hx with h | h
    · exact .inl h
    · exact hmem l hl x h
  refine ex_if ?_
  refine t_cmp ?_
  refine e_meth attrBase_name rfl rfl ?_
  refine e_local ks__law_pairs k__law_pairs_told mt5 ?_
  intro pl5
  refine g_split ?_
  refine call_b1 rfl ?_
  refine args_cons (e_strS [13, 10] rfl fun _ => ?_)
  refine args_nil ?_
  have hdl2 : (crlf (Dd.map (·.1))).length ≤ 100000 := by
    refine hquo ▸ ?_
    have := quo_len (fixE false T) true
    have := fix_len T false
    omega
  refine c_split (fun e => by have := congrArg List.length e; simp [hDl] at this) (fun l hl => ?_) hdl2 fun r rob ps fr hrX hps => ?_
  · rw [hDd] at hl
    refine exE1 (List.mem_map.mp hl) fun l' h_0 => anE2 h_0 fun hl' e_7 => ?_
    clear h_0
    subst e_7
    exact duo_clean (hclean l' hl')
  refine e_local ks__law_pairs k__law_pairs_due (g5 "due" (by decide) _ x2) ?_
  refine ll_ne (Rd.le (by omega)) (.inr (.head _)) hrX (.inr (.tail _ (N05 _ hdu))) hduo (fun q hq x hx => ?_) (fun q hq x hx => by have := hDm q hq x hx; omega) (truthy_b ?_)
  · have h1 : q.1 ∈ ps.map (·.1) := List.mem_map_of_mem hq
    rw [hps] at h1
    refine exE1 (List.mem_map.mp h1) fun q' h_0 => anE2 h_0 fun hq' e => ?_
    clear h_0
    rw [← e] at hx
    have := hDm q' hq' x hx; omega
  rw [hps, bne_self_eq_false]
  show WB _ _ _ _ _ _ _ (execs (_ :: _ :: takeFor :: []) _) _
  refine ex_assignL ks__law_pairs k__law_pairs_back ?_
  refine e_bin ?_
  refine e_callb G ks__law_pairs k__law_pairs_len (id := "len") (by decide) rfl ?_
  refine args_cons (e_local ks__law_pairs k__law_pairs_lines (g5 "lines" (by decide) _ x1) ?_)
  refine args_nil ?_
  refine c_lenL (.inr (.tail _ (N05 _ hl))) hlo.lo (by simp; omega) fun tl => ?_
  refine e_local ks__law_pairs k__law_pairs_cut (g5 "cut" (by decide) _ x9) ?_
  refine i_sub fun tb => ?_
  refine via fun ξ κ=>?_
  obtain ⟨b, hb⟩ : ∃ b : Nat, b = ds.length + 3 - c := ⟨_, rfl⟩
  refine κ ?_;clear κ ξ
  have hbi : (((txV Ls).length : Nat) : Int) - (c : Int) = (b : Int) := by
    have : (txV Ls).length = ds.length + 3 := by simp [hLl]
    omega
  refine (Eq.symm hbi) ▸ ?_
  have g6 : ∀ x : String, x ∉ ["text", "raw", "feed", "end", "k", "told", "back"] → ∀ v, m (Str.ofString x) = some v → upd m5 (Str.ofString "back") (.int b tb) (Str.ofString x) = some v := fun x hx v hv => by
    rw [upd_get, if_neg (fun e => hx (by rw [ofString_inj.mp e]; decide))]
    exact g5 x (fun h => hx (List.mem_append_left ["back"] h)) v hv
  refine ex_assignL ks__law_pairs k__law_pairs_rows ?_
  refine e_slice ?_ (fun _ _ => .inr rfl)
  refine e_bin ?_
  refine e_slice ?_ (fun _ _ => .inr rfl)
  refine e_local ks__law_pairs k__law_pairs_due (g6 "due" (by decide) _ x2) ?_
  simp only [evalPart_some, evalPart_none]
  refine e_local ks__law_pairs k__law_pairs_back (v := .int b tb) (by kwd_inv) ?_
  refine WB.pure (WB.pure ?_)
  refine slcI du do_ (txV Dd) _ _ _ (.inr (.tail _ (N05 _ hdu))) hduo.lo (by simp; omega) (.int _ _) .none .none (by simp) (fun s1 l1 s1o fl1 => ?_)
  rw [slice_from_tx]
  refine e_slice ?_ (fun _ _ => .inr rfl)
  refine e_local ks__law_pairs k__law_pairs_due (g6 "due" (by decide) _ x2) ?_
  simp only [evalPart_some, evalPart_none]
  refine WB.pure ?_
  refine e_local ks__law_pairs k__law_pairs_back (v := .int b tb) (by kwd_inv) ?_
  refine WB.pure ?_
  refine slcI du do_ (txV Dd) _ _ _ (.inr (by simp [N05 _ hdu])) hduo.lo (by simp; omega) .none (.int _ _) .none (by simp) (fun s2 l2 s2o fl2 => ?_)
  rw [slice_upto_tx]
  refine l_add (.inr (.tail _ (.tail _ (.head _)))) ⟨0, rfl⟩ (.inr (.head _)) ⟨0, rfl⟩ (by simp; omega) fun l3 fl3 => ?_
  have eL1 : txV (Dd.drop b) ++ txV (Dd.take b) = txV (Dd.drop b ++ Dd.take b) := by simp [txV]
  refine (Eq.symm eL1) ▸ ?_
  refine WB.pure ?_
  refine e_callb G ks__law_pairs k__law_pairs_len (id := "len") (by decide) rfl ?_
  refine args_cons (e_local ks__law_pairs k__law_pairs_rows (g6 "rows" (by decide) _ x7) ?_)
  refine args_nil ?_
  refine c_lenL (hrl.imp id fun h => by simp [N05 _ h]) hro.lo (by simp; omega) fun tl2 => ?_
  refine WB.pure ?_
  refine slcI l3 _ (txV (Dd.drop b ++ Dd.take b)) _ _ _ (.inr (.head _)) ((LP.of _ 0).lo) (by simp; omega) .none (.int _ _) .none (by simp) (fun s4 l4 s4o fl4 => ?_)
  have hrl2 : (txV Rs).length = ds.length := by simp [hRl]
  rw [hrl2, slice_upto_tx]
  have hR' : ((Dd.drop b ++ Dd.take b).take ds.length).map (·.1) = rowsAt mk ds (sd + 1) := by
    rw [List.map_take, List.map_append, List.map_drop, List.map_take, hDd, hLs]
    have e1 : (rotL c (mailOf mk (rowsAt mk ds sd))).map duo = rotL c ((mailOf mk (rowsAt mk ds sd)).map duo) := by unfold rotL; rw [List.map_append, List.map_drop, List.map_take]
    have e2 : b = ((mailOf mk (rowsAt mk ds sd)).map duo).length - c := by rw [List.length_map, hMl, hb]
    rw [e1, e2, rot_back c _ (by rw [List.length_map, hMl]; omega)]
    unfold mailOf
    rw [List.map_append, rowsAt_duo fun d hd => (hds d hd).1]
    have e3 : ds.length = (rowsAt mk ds (sd + 1)).length := by simp [rowsAt]
    rw [e3, List.take_left]
  have hRC' : ∀ p ∈ (Dd.drop b ++ Dd.take b).take ds.length, p ∈ C := fun p hp => by
    have h1 : p ∈ Dd := by
      rcases List.mem_append.mp (List.mem_of_mem_take hp) with h | h
      · exact List.mem_of_mem_drop h
      · exact List.mem_of_mem_take h
    have h2 : p.1 ∈ rowsAt mk ds (sd + 1) := by rw [← hR']; exact List.mem_map_of_mem hp
    refine exE1 (rowsAt_mem h2) fun d h_0 => anE2 h_0 fun _ e => ?_
    clear h_0
    exact hDC p h1 (by rw [e]; exact rowT_take (by omega))
  generalize (Dd.drop b ++ Dd.take b).take ds.length = R' at *
  have hR'l : R'.length = ds.length := by have := congrArg List.length hR'; simpa [rowsAt] using this
  have hpsl : Ps.length ≤ 1000 := by
    have := congrArg List.length hPs
    rw [List.length_map] at this
    have h2 := pairsAt_len mk ds hn6 sd
    omega
  have m7 : ∃ m7, upd (upd m5 (Str.ofString "back") (.int b tb)) (Str.ofString "rows") (.ref l4) = m7 ∧ m7 (Str.ofString "rows") = some (.ref l4) ∧ flo m7 = flo m ∧ ∀ x : String, x ∉ ["text", "raw", "feed", "end", "k", "told", "back", "rows"] → ∀ v, m (Str.ofString x) = some v → m7 (Str.ofString x) = some v :=
    ⟨_, rfl, by kwd_inv, by simp only [flo_updK, String.reduceEq, if_false]; exact f5, fun x hx v hv => by
      rw [upd_get, if_neg (fun e => hx (by rw [ofString_inj.mp e]; decide))]
      exact g6 x (fun h => hx (List.mem_append_left ["rows"] h)) v hv⟩
  refine exE1 m7 fun m7 h_0 => anE4 h_0 fun em7 mr7 f7 g7 => ?_
  clear h_0
  refine (Eq.symm em7) ▸ ?_
  refine take_loop (N := _) G (Rd.le (by omega)) (.inr (.head _)) (⟨0, rfl⟩ : LX (lstObj (txV R')) (txV R')) (.inl hd) hdo hI (hpl.imp id fun h => by simp [N05 _ h]) hpo hR'l hn6 hpsl mr7 (g7 "dots" (by decide) _ x6) (g7 "pairs" (by decide) _ x8) (g7 "sending" (by decide) _ x5) fun m8 N8 pl' po' hs8 hN8 mp8 hpl8 hpo8 => ?_
  have g8 : ∀ x : String, x ∉ ["text", "raw", "feed", "end", "k", "told", "back", "rows", "pairs"] → ∀ v, m (Str.ofString x) = some v → m8 (Str.ofString x) = some v := fun x hx v hv => by
    refine (Eq.symm (hs8 x (fun h => hx (by simp only [List.mem_cons, List.not_mem_nil, or_false] at h; rcases h with rfl | rfl <;> decide)))) ▸ ?_
    exact g7 x (fun h => hx (List.mem_append_left ["pairs"] h)) v hv
  refine ex_nil ⟨rfl, g8 "dots" (by decide) _ x6, ⟨tt, g8 "turn" (by decide) _ x4⟩, g8 "ends" (by decide) _ x3, hN8 _ (by simp [N05 _ he]), hN8 _ (by simp [N05 _ hlc]), l4, _, R', pl', po', _, C, ?_, .inr (hN8 _ (.head _)), ⟨0, rfl⟩, hR', mp8, hpl8, hpo8, ?_, ?_, hRC', ?_⟩
  · rw [hs8 "rows" (by decide)]; exact mr7
  · rw [List.map_append, hPs, putBy_map, hR', pairsAt_succ, show (0 + (sd : Int) + 1) = (sd : Int) + 1 by omega]
  · rw [hs8.flo (by decide), f7]; exact hC
  · intro p hp
    rcases List.mem_append.mp hp with h | h
    · exact hPC p h
    · exact hRC' p (putBy_sub h)
end hsend_rest
theorem send_rest {g0 mg mb A h₀ L m N cn a0 ccd mk ds dvs dl lc el ll du rl pl dob oc eo ro po e1 e2 e3 tk tt tc k1 k2 tn sd c Ls Dd Rs Ps C cl lo do_} : hsend_rest.st_ g0 mg mb A h₀ L m N cn a0 ccd mk ds dvs dl lc el ll du rl pl dob oc eo ro po e1 e2 e3 tk tt tc k1 k2 tn sd c Ls Dd Rs Ps C cl lo do_ := Mine.hk hsend_rest.ne_ (P := hsend_rest.Q_) hsend_rest.main_ (((((g0, mg), (mb, (A, h₀))), ((L, (m, N)), (cn, (a0, ccd)))), (((mk, ds), (dvs, (dl, lc))), ((el, (ll, du)), (rl, (pl, dob))))), ((((oc, eo), (ro, (po, e1))), ((e2, (e3, tk)), (tt, (tc, k1)))), (((k2, (tn, sd)), (c, (Ls, Dd))), ((Rs, (Ps, C)), (cl, (lo, do_))))))
section
variable {prog : Program} {w : World} {g0 : Cx} {mg mb : Loc} {A : Around} {E : Value → Shared → Prop} {s : Shared} {h₀ : Heap} {L : Addr} {m : Loc} {N : Led}
end
end Mine

end

section
open PySem PySem.W PyProof.Rows
namespace Mine
open Builtin.Int (intBits)
section
variable {prog : Program} {w : World} {g0 : Cx} {mg mb : Loc} {A : Around} {E : Value → Shared → Prop} {s : Shared} {h₀ : Heap} {L : Addr} {m : Loc} {N : Led}
end
namespace hsend_turn
noncomputable def st_ (g0 : Mine.Cx) (mg mb : Mine.Loc) (A : PySem.Around) (h₀ : PySem.Heap) (L : PySem.Addr) (m : Mine.Loc) (N : Mine.Led) (cn : PySem.Str) (a0 : PySem.Addr) (ccd : PySem.Value) (mk : Nat) (tm : PySem.Tok) (ds : List Int) (dvs : List PySem.Value) (dl lc el : PySem.Addr) (dob oc eo : PySem.Obj) (e1 e2 e3 tk : PySem.Tok) (tn : Int) (sd : Nat) : Prop := ∀ (G : Gd mg mb h₀) (Rd : Room A 4) (hd : h₀.get? dl = some dob) (hdo : LO dob dvs) (hI : Ints dvs ds) (hds : ∀ d ∈ ds, 1 ≤ d ∧ d ≤ 7) (hn : 1 ≤ ds.length) (hn6 : ds.length ≤ 6) (hoc : oc.data = .cell (some (mkS [mk] tm))) (hmk : mk < 55296 ∧ mk ≠ 46 ∧ mk ≠ 10 ∧ mk ≠ 13) (heo : LX eo (txV [([10], e1), ([13], e2), ([13, 10], e3)])) (hsd : sd < 7) (J : SendJ h₀ mk ds dl lc oc el eo tn sd m N), WB g0 A (fun _ _ => False) h₀ L (upd m (Str.ofString "sending") (.int (0 + sd) tk)) N (execs sendBody (envX cn (scopeOf 27) L a0 ccd [(Str.ofString "mark", lc)])) fun f m' N' => f = .next ∧ SendJ h₀ mk ds dl lc oc el eo tn (sd + 1) m' N'
noncomputable abbrev T_ := ((((Mine.Cx × (Mine.Loc × Mine.Loc)) × (PySem.Around × (PySem.Heap × PySem.Addr))) × ((Mine.Loc × (Mine.Led × PySem.Str)) × ((PySem.Addr × PySem.Value) × (Nat × PySem.Tok)))) × ((((List Int) × ((List PySem.Value) × PySem.Addr)) × ((PySem.Addr × PySem.Addr) × (PySem.Obj × PySem.Obj))) × ((PySem.Obj × (PySem.Tok × PySem.Tok)) × ((PySem.Tok × PySem.Tok) × (Int × Nat)))))
theorem ne_ : Nonempty T_ := ⟨by repeat' (first | apply Prod.mk | exact default | exact nAr | exact nCx | exact nSh | constructor)⟩
noncomputable def Q_ (p : T_) : Prop := st_ p.1.1.1.1 p.1.1.1.2.1 p.1.1.1.2.2 p.1.1.2.1 p.1.1.2.2.1 p.1.1.2.2.2 p.1.2.1.1 p.1.2.1.2.1 p.1.2.1.2.2 p.1.2.2.1.1 p.1.2.2.1.2 p.1.2.2.2.1 p.1.2.2.2.2 p.2.1.1.1 p.2.1.1.2.1 p.2.1.1.2.2 p.2.1.2.1.1 p.2.1.2.1.2 p.2.1.2.2.1 p.2.1.2.2.2 p.2.2.1.1 p.2.2.1.2.1 p.2.2.1.2.2 p.2.2.2.1.1 p.2.2.2.1.2 p.2.2.2.2.1 p.2.2.2.2.2
noncomputable def w_ : T_ := @Classical.epsilon _ ne_ fun p => ¬ Q_ p
noncomputable def g0 := w_.1.1.1.1
noncomputable def A := w_.1.1.2.1
noncomputable def h₀ := w_.1.1.2.2.1
noncomputable def L := w_.1.1.2.2.2
noncomputable def m := w_.1.2.1.1
noncomputable def N := w_.1.2.1.2.1
noncomputable def cn := w_.1.2.1.2.2
noncomputable def a0 := w_.1.2.2.1.1
noncomputable def ccd := w_.1.2.2.1.2
noncomputable def mk := w_.1.2.2.2.1
noncomputable def ds := w_.2.1.1.1
noncomputable def dl := w_.2.1.1.2.2
noncomputable def lc := w_.2.1.2.1.1
noncomputable def el := w_.2.1.2.1.2
noncomputable def oc := w_.2.1.2.2.2
noncomputable def eo := w_.2.2.1.1
noncomputable def e1 := w_.2.2.1.2.1
noncomputable def e2 := w_.2.2.1.2.2
noncomputable def e3 := w_.2.2.2.1.1
noncomputable def tk := w_.2.2.2.1.2
noncomputable def tn := w_.2.2.2.2.1
noncomputable def sd := w_.2.2.2.2.2
set_option maxHeartbeats 4000000 in
theorem main_ : st_ g0 w_.1.1.1.2.1 w_.1.1.1.2.2 A h₀ L m N cn a0 ccd mk w_.1.2.2.2.2 ds w_.2.1.1.2.1 dl lc el w_.2.1.2.2.1 oc eo e1 e2 e3 tk tn sd := by
  intro G Rd hd hdo hI hds hn hn6 hoc hmk heo hsd J
  refine via fun ξ κ=>?_
  obtain ⟨md, ⟨tt, mtn⟩, me, he, hc, rl, ro, Rs, pl, po, Ps, C, mrw, hrl, hro, hRs, mp, hpl, hpo, hPs, hC, hRC, hPC⟩ := J
  refine κ ?_;clear κ ξ
  have hRl : Rs.length = ds.length := by have := congrArg List.length hRs; simpa [rowsAt] using this
  show WB _ _ _ _ _ _ _ (execs (_ :: _ :: _ :: _ :: _ :: _ :: _ :: _ :: _ :: _ :: _ :: _ :: _ :: []) _) _
  refine ex_assignL ks__law_pairs k__law_pairs_lines ?_
  refine e_bin ?_
  refine e_local ks__law_pairs k__law_pairs_rows (v := .ref rl) (by kwd_inv) ?_
  refine e_list rfl ?_
  refine args_cons (e_strS [] rfl fun u1 => ?_)
  refine args_cons (e_strS [46] rfl fun u2 => ?_)
  refine args_cons ?_
  refine e_bin ?_
  refine e_cell ks__law_pairs k__law_pairs_mark rfl (.inr hc) hoc ?_
  refine e_strS [46] rfl fun _ => ?_
  refine ss_add (by simp) fun u3 => ?_
  refine args_nil ⟨by simp, fun q fq => ?_⟩
  have eL0 : txV Rs ++ [mkS [] u1, mkS [46] u2, mkS ([mk] ++ [46]) u3] = txV (Rs ++ [([], u1), ([46], u2), ([mk, 46], u3)]) := by simp [txV]
  refine l_add (hrl.imp id (.tail _)) hro (.inr (.head _)) ⟨0, rfl⟩ (by simp; omega) fun l0 fl0 => ?_
  refine (Eq.symm eL0) ▸ ?_
  generalize hL0 : Rs ++ [([], u1), ([46], u2), ([mk, 46], u3)] = L0
  have hL0f : L0.map (·.1) = mailOf mk (rowsAt mk ds sd) := by rw [← hL0, List.map_append, hRs]; rfl
  have hL0l : L0.length = ds.length + 3 := by rw [← hL0]; simp [hRl]
  refine ex_assignL ks__law_pairs k__law_pairs_cut ?_
  refine e_bin (e_bin ?_)
  refine e_local ks__law_pairs k__law_pairs_turn (v := .int tn tt) (by kwd_inv) ?_
  refine e_local ks__law_pairs k__law_pairs_sending (v := .int (0 + sd) tk) (by kwd_inv) ?_
  refine i_add fun _ => ?_
  refine e_callb G ks__law_pairs k__law_pairs_len (id := "len") (by decide) rfl ?_
  refine args_cons (e_local ks__law_pairs k__law_pairs_lines (v := .ref l0) (by kwd_inv) ?_)
  refine args_nil ?_
  refine c_lenL (.inr (.head _)) (LP.of _ 0).lo (by simp; omega) fun tl => ?_
  have hlen0 : (((txV L0).length : Nat) : Int) = ((ds.length + 3 : Nat) : Int) := by simp [hL0l]
  rw [hlen0]
  refine i_mod (by omega) fun tc => ?_
  rw [fmod_pos (by omega)]
  have c0 := Int.emod_nonneg (tn + (0 + (sd : Int))) (show (((ds.length + 3 : Nat) : Int)) ≠ 0 by omega)
  have c1 := Int.emod_lt_of_pos (tn + (0 + (sd : Int))) (show (0 : Int) < ((ds.length + 3 : Nat) : Int) by omega)
  refine via fun ξ κ=>?_
  obtain ⟨c, hcc⟩ : ∃ c : Nat, (c : Int) = (tn + (0 + (sd : Int))) % ((ds.length + 3 : Nat) : Int) := ⟨_, Int.toNat_of_nonneg c0⟩
  refine κ ?_;clear κ ξ
  rw [← hcc] at c0 c1 ⊢
  have hc3 : c < ds.length + 3 := by omega
  refine ex_assignL ks__law_pairs k__law_pairs_lines ?_
  refine e_bin ?_
  refine e_slice ?_ (fun _ _ => .inr rfl)
  refine e_local ks__law_pairs k__law_pairs_lines (v := .ref l0) (by kwd_inv) ?_
  simp only [evalPart_some, evalPart_none]
  refine e_local ks__law_pairs k__law_pairs_cut (v := .int c tc) (by kwd_inv) ?_
  refine WB.pure (WB.pure ?_)
  refine slcI l0 _ (txV L0) _ _ _ (.inr (.head _)) ((LP.of _ 0).lo) (by simp; omega) (.int _ _) .none .none (by simp) (fun s1 l1 s1o fl1 => ?_)
  rw [slice_from_tx]
  refine e_slice ?_ (fun _ _ => .inr rfl)
  refine e_local ks__law_pairs k__law_pairs_lines (v := .ref l0) (by kwd_inv) ?_
  simp only [evalPart_some, evalPart_none]
  refine WB.pure ?_
  refine e_local ks__law_pairs k__law_pairs_cut (v := .int c tc) (by kwd_inv) ?_
  refine WB.pure ?_
  refine slcI l0 _ (txV L0) _ _ _ (.inr (.tail _ (.tail _ (.head _)))) ((LP.of _ 0).lo) (by simp; omega) .none (.int _ _) .none (by simp) (fun s2 l2 s2o fl2 => ?_)
  rw [slice_upto_tx]
  refine l_add (.inr (.tail _ (.tail _ (.head _)))) ⟨0, rfl⟩ (.inr (.head _)) ⟨0, rfl⟩ (by simp; omega) fun l3 fl3 => ?_
  have eL1 : txV (L0.drop c) ++ txV (L0.take c) = txV (rotL c L0) := by simp [txV, rotL]
  refine (Eq.symm eL1) ▸ ?_
  generalize hL1 : rotL c L0 = L1
  have hL1l : L1.length = ds.length + 3 := by rw [← hL1]; simp [rotL]; omega
  have hL1m : ∀ p ∈ L1, ∀ x ∈ p.1, x = 46 ∨ x = mk := fun p hp x hx => by
    rw [← hL1] at hp
    have hp := rot_mem hp
    have h1 : p.1 ∈ L0.map (·.1) := List.mem_map_of_mem hp
    rw [hL0f] at h1
    exact mail_mem h1 hx
  have hL1len : ∀ p ∈ L1, p.1.length ≤ 17 := fun p hp => by
    rw [← hL1] at hp
    have h1 : p.1 ∈ L0.map (·.1) := List.mem_map_of_mem (rot_mem hp)
    rw [hL0f] at h1
    exact Nat.le_trans (mail_len (K := 14) (fun d hd => by have := hds d hd; omega) h1) (by omega)
  refine ex_assignComp (cl := []) rfl ks__law_pairs k__law_pairs_due (by decide) (fun (p : List Nat × Tok) v => v = mkS p.1 p.2) L1
    (fun r ys T => ∃ Dd C' done, ys = txV Dd ∧ done ++ r = L1 ∧ Dd.map (·.1) = (done.map (·.1)).map duo ∧ Cons C' T ∧ (∀ p ∈ C, p ∈ C') ∧ ∀ p ∈ Dd, p.1.take 1 = [46] → p ∈ C')
    (by rfl) (by rfl) (by decide) (by rfl) (by rfl) (by decide) (by omega) rfl G ?_
  refine e_local ks__law_pairs k__law_pairs_lines (v := .ref l3) (by kwd_inv) ?_
  refine it_listS Rd.handled (.inr (.head _)) (LP.of _ 0).lo fun I o fI hY hself => ?_
  refine ⟨I, o, _, [(l3, lstObj (txV L1))], rfl, rfl, ?_, hself, fun p hp => by rw [List.mem_singleton.mp hp]; exact .inr (.head _), ⟨[], C, [], rfl, rfl, rfl, by simpa only [flo_updK, String.reduceEq, if_false] using hC, fun p hp => hp, fun p hp => nomatch hp⟩, ?_, ?_⟩
  · refine hY.mono (by simp) fun i P P' h1 h2 v hv => ?_
    rw [List.getElem?_map] at h1 h2
    rw [List.getElem?_map] at h1
    cases hp : L1[i]? with
    | none => rw [hp] at h2; cases h2
    | some p =>
      rw [hp] at h1 h2
      simp only [Option.map_some, Option.some.injEq] at h1 h2
      rw [← h1] at hv; rw [← h2]; exact hv
  · intro p r ys T v h₀c Cc mC e_1 e_3 Gc atc hmx hfl
    refine exE3 e_1 fun Dd C' done h_0 => anE6 h_0 fun e_2 hdone hDd hC' hCC hDC => ?_
    clear h_0 e_1
    subst e_2
    subst e_3
    have hp1 : p ∈ L1 := by rw [← hdone]; simp
    refine e_ifexp ?_
    refine t_cmp ?_
    refine e_slice1 ?_ (fun _ _ => .inr rfl)
    refine n_local rfl (by rfl) (by rfl) hmx ?_
    refine exI2 p.1 p.2 ⟨rfl, by have := hL1len p hp1; omega, fun sl so k => ?_⟩
    refine e_strS [46] rfl fun _ => ?_
    refine ss_eq (truthy_b ?_)
    by_cases hp46 : p.1.take 1 = [46]
    · refine if_t3 (show (p.1.take 1 == [46]) = true by simpa using hp46) ?_
      refine e_bin ?_
      refine e_strS [46] rfl fun _ => ?_
      refine n_local rfl (by rfl) (by rfl) hmx ?_
      have hne : p.1 ≠ [] := fun e => by rw [e] at hp46; cases hp46
      refine ss_addF (by decide) hne (by have := hL1len p hp1; simp; omega) fun k hk hk0 => ?_
      refine exI2 (Dd ++ [([46] ++ p.1, k)]) (([46] ++ p.1, k) :: C') ⟨done ++ [p], by simp [txV], by simp [hdone], ?_, ?_, fun q hq => .tail _ (hCC q hq), fun q hq h46 => ?_⟩
      · have : duo p.1 = [46] ++ p.1 := if_pos hp46
        simp [hDd, this]
      · refine (Eq.symm flo_setF) ▸ ?_
        exact hC'.add (by rw [← hfl]; exact hk) hk0
      · rcases List.mem_append.mp hq with hq | hq
        · exact .tail _ (hDC q hq h46)
        · rw [List.mem_singleton.mp hq]; exact .head _
    · refine if_f3 (show (p.1.take 1 == [46]) = false by simpa using hp46) ?_
      refine n_local rfl (by rfl) (by rfl) hmx ?_
      refine exI2 (Dd ++ [p]) C' ⟨done ++ [p], by simp [txV], by simp [hdone], ?_, by rw [hfl]; exact hC', hCC, fun q hq h46 => ?_⟩
      · have : duo p.1 = p.1 := if_neg hp46
        simp [hDd, this]
      · rcases List.mem_append.mp hq with hq | hq
        · exact hDC q hq h46
        · rw [List.mem_singleton.mp hq] at h46; exact absurd h46 hp46
  intro D k ys T e_4 hD
  refine exE3 e_4 fun Dd C' done h_0 => anE6 h_0 fun e_5 hdone hDd hC' hCC hDC => ?_
  clear h_0 e_4
  subst e_5
  rw [List.append_nil] at hdone
  subst hdone
  have m3 : ∃ m3, upd (setF (upd (upd (upd (upd m (Str.ofString "sending") (.int (0 + sd) tk)) (Str.ofString "lines") (.ref l0)) (Str.ofString "cut") (.int c tc)) (Str.ofString "lines") (.ref l3)) T) (Str.ofString "due") (.ref D) = m3 ∧ m3 (Str.ofString "lines") = some (.ref l3) ∧ m3 (Str.ofString "due") = some (.ref D) ∧ m3 (Str.ofString "ends") = some (.ref el) ∧ m3 (Str.ofString "turn") = some (.int tn tt) ∧
      m3 (Str.ofString "sending") = some (.int (0 + sd) tk) ∧ m3 (Str.ofString "dots") = some (.ref dl) ∧ m3 (Str.ofString "rows") = some (.ref rl) ∧ m3 (Str.ofString "pairs") = some (.ref pl) ∧ m3 (Str.ofString "cut") = some (.int c tc) ∧ flo m3 = T :=
    ⟨_, rfl, by kwd_inv, by kwd_inv, by kwd_inv, by kwd_inv, by kwd_inv, by kwd_inv, by kwd_inv, by kwd_inv, by kwd_inv, by simp only [flo_updK, String.reduceEq, if_false, flo_setF]⟩
  refine exE1 m3 fun m3 h_0 => anE11 h_0 fun em3 x1 x2 x3 x4 x5 x6 x7 x8 x9 x10 => ?_
  clear h_0
  refine (Eq.symm em3) ▸ ?_
  clear em3
  have n3 : ∀ (N3 : Led), (∀ p ∈ N, p ∈ N3) → (l3, lstObj (txV done)) ∈ N3 → (D, lstObj (txV Dd) k) ∈ N3 → WB g0 A (fun _ _ => False) h₀ L m3 N3 (execs (sendBody.drop 4) (envX cn (scopeOf 27) L a0 ccd [(Str.ofString "mark", lc)])) fun f m' N' => f = .next ∧ SendJ h₀ mk ds dl lc oc el eo tn (sd + 1) m' N' := by
    intro N3 k1 k2 k3
    refine send_rest (e1 := e1) (e2 := e2) (e3 := e3) (tk := tk) (tt := tt) (tc := tc) (k1 := 0) (k2 := 0) (Ls := done) (Dd := Dd) (Rs := Rs) (Ps := Ps) (C := C') (c := c) G Rd hd hdo hI hds hn hn6 hmk heo hsd hc3 ?_ hDd hDC (by rw [x10]; exact hC') (fun p hp => hCC p (hPC p hp)) hPs x1 x2 x3 x4 x5 x6 x7 x8 x9 k2 ⟨0, rfl⟩ k3 ⟨_, rfl⟩ (k1 _ he) (k1 _ hc) (hrl.imp id (k1 _)) hro hRl (hpl.imp id (k1 _)) hpo
    rw [← hL1, ← hL0f]
    unfold rotL
    rw [List.map_append, List.map_drop, List.map_take]
  exact n3 _ (fun p hp => by simp [hp]) (by simp) (by simp)
end hsend_turn
theorem send_turn {g0 mg mb A h₀ L m N cn a0 ccd mk tm ds dvs dl lc el dob oc eo e1 e2 e3 tk tn sd} : hsend_turn.st_ g0 mg mb A h₀ L m N cn a0 ccd mk tm ds dvs dl lc el dob oc eo e1 e2 e3 tk tn sd := Mine.hk hsend_turn.ne_ (P := hsend_turn.Q_) hsend_turn.main_ ((((g0, (mg, mb)), (A, (h₀, L))), ((m, (N, cn)), ((a0, ccd), (mk, tm)))), (((ds, (dvs, dl)), ((lc, el), (dob, oc))), ((eo, (e1, e2)), ((e3, tk), (tn, sd)))))
section
variable {prog : Program} {w : World} {g0 : Cx} {mg mb : Loc} {A : Around} {E : Value → Shared → Prop} {s : Shared} {h₀ : Heap} {L : Addr} {m : Loc} {N : Led}
end
end Mine

end

section
open PySem PySem.W PyProof.Rows
namespace Mine
theorem flatMap_two {α β : Type} (a b : α → List β) : ∀ l : List α, (l.flatMap a ++ l.flatMap b).Perm (l.flatMap fun k => a k ++ b k)
  | [] => .refl _
  | x :: l => by
    simp only [List.flatMap_cons]
    have ih := flatMap_two a b l
    have h1 : (a x ++ l.flatMap a ++ (b x ++ l.flatMap b)).Perm (a x ++ (b x ++ (l.flatMap a ++ l.flatMap b))) := by
      rw [List.append_assoc]
      refine List.Perm.append_left _ ?_
      rw [← List.append_assoc, ← List.append_assoc]
      exact List.Perm.append_right _ List.perm_append_comm
    refine h1.trans ?_
    rw [List.append_assoc]
    exact List.Perm.append_left _ (List.Perm.append_left _ ih)
noncomputable def gives (mk : Nat) (ds : List Int) (k : Nat) : List (List Nat) := match ds[k]? with | some d => (ds.take k).map (fun e => rowT mk (e.toNat + d.toNat)) | none => []
noncomputable def upTo (mk : Nat) (ds : List Int) (s : Nat) (k : Nat) : List (List Nat) := match ds[k]? with | some d => if 1 ≤ d ∧ d ≤ (s : Int) then gives mk ds k else [] | none => []
theorem pairsAt_perm (mk : Nat) (ds : List Int) : ∀ s : Nat, (pairsAt mk ds s).Perm ((List.range ds.length).flatMap (upTo mk ds s))
  | 0 => by
    have : ∀ l : List Nat, l.flatMap (upTo mk ds 0) = [] := by
      intro l
      induction l with
      | nil => rfl
      | cons k l ih =>
        rw [List.flatMap_cons, ih]
        unfold upTo
        cases ds[k]? with
        | none => rfl
        | some d => dsimp only; rw [if_neg (by omega)]; rfl
    rw [this]; exact .refl _
  | s + 1 => by
    rw [pairsAt_succ]
    refine (List.Perm.append_right _ (pairsAt_perm mk ds s)).trans ?_
    unfold putBy
    refine (flatMap_two _ _ _).trans ?_
    refine List.Perm.of_eq ?_
    congr 1
    funext k
    unfold upTo gives
    cases hk : ds[k]? with
    | none => simp
    | some d =>
      simp only [Option.some.injEq]
      by_cases h1 : d = (s : Int) + 1
      · rw [if_pos h1, if_neg (by omega), if_pos (by push_cast; omega)]
        unfold rowsAt
        rw [List.map_take, h1]
        rw [show ((s : Int) + 1).toNat = s + 1 by omega]; rfl
      · rw [if_neg h1, List.append_nil]
        by_cases h2 : 1 ≤ d ∧ d ≤ (s : Int)
        · rw [if_pos h2, if_pos (by push_cast; omega)]
        · rw [if_neg h2, if_neg (by push_cast; omega)]
theorem pairSums_snoc (x : Int) : ∀ ds : List Int, (pairSums (ds ++ [x])).Perm (pairSums ds ++ ds.map (· + x))
  | [] => by simp [pairSums]
  | d :: ds => by
    rw [List.cons_append, pairSums, pairSums, List.map_append, List.map_cons, List.map_nil, List.map_cons]
    have ih := pairSums_snoc x ds
    refine (List.Perm.append_left _ ih).trans ?_
    rw [List.append_assoc, List.append_assoc]
    refine List.Perm.append_left _ ?_
    rw [List.singleton_append]
    exact (List.perm_middle).symm
theorem gives_perm (mk : Nat) (ds : List Int) (hds : ∀ d ∈ ds, 1 ≤ d) : ∀ n : Nat, n ≤ ds.length → ((List.range n).flatMap (gives mk ds)).Perm ((pairSums (ds.take n)).map fun v => rowT mk v.toNat)
  | 0, _ => by simp [pairSums]
  | n + 1, h => by
    have hn : n < ds.length := by omega
    rw [List.range_succ, List.flatMap_append, List.take_succ_eq_append_getElem hn]
    refine List.Perm.trans ?_ ((pairSums_snoc ds[n] (ds.take n)).symm.map _)
    rw [List.map_append]
    refine (List.Perm.append_right _ (gives_perm mk ds hds n (by omega))).trans ?_
    refine List.Perm.append_left _ (.of_eq ?_)
    rw [List.flatMap_cons, List.flatMap_nil, List.append_nil, List.map_map]
    unfold gives
    rw [List.getElem?_eq_getElem hn]
    refine List.map_congr_left fun e he => ?_
    have h1 := hds e (List.mem_of_mem_take he)
    have h2 := hds _ (List.getElem_mem hn)
    show _ = rowT mk (e + ds[n]).toNat
    congr 1; omega
theorem pairs_all (mk : Nat) (ds : List Int) (M : Nat) (hds : ∀ d ∈ ds, 1 ≤ d ∧ d ≤ M) : (pairsAt mk ds M).Perm ((pairSums ds).map fun v => rowT mk v.toNat) := by
  refine (pairsAt_perm mk ds M).trans ?_
  have e : (List.range ds.length).flatMap (upTo mk ds M) = (List.range ds.length).flatMap (gives mk ds) := by
    congr 1
    funext k
    unfold upTo
    cases hk : ds[k]? with
    | none => simp [gives, hk]
    | some d => dsimp only; rw [if_pos (hds d (List.mem_of_getElem? hk))]
  rw [e]
  have := gives_perm mk ds (fun d hd => (hds d hd).1) ds.length (Nat.le_refl _)
  rwa [List.take_length] at this
end Mine

end

section
open PySem PySem.W PyProof.Rows
namespace Mine
open PySem.Spec
open Builtin.Int (intBits)
noncomputable def pairsRet : Stmt := (bodyOf 27).getD 4 (.Pass default)
theorem max_of : ∀ {ds : List Int}, 1 ≤ ds.length → ∃ M ∈ ds, ∀ a ∈ ds, a ≤ M
  | [x], _ => ⟨x, .head _, fun a ha => by rw [List.mem_singleton.mp ha]; exact Int.le_refl _⟩
  | x :: y :: r, _ => by
    refine exE1 (max_of (ds := y :: r) (by simp)) fun M h_0 => anE2 h_0 fun h1 h2 => ?_
    clear h_0
    by_cases h : x ≤ M
    · exact ⟨M, .tail _ h1, fun a ha => by rcases List.mem_cons.mp ha with rfl | ha; exact h; exact h2 a ha⟩
    · exact ⟨x, .head _, fun a ha => by
        rcases List.mem_cons.mp ha with rfl | ha
        · exact Int.le_refl _
        · have := h2 a ha; omega⟩
section
variable {prog : Program} {w : World} {g0 : Cx} {mg mb : Loc} {A : Around} {E : Value → Shared → Prop} {s : Shared}
noncomputable def RPairs (mk : Nat) (ds : List Int) (v : Value) (new : Led) : Prop := ∃ r ro ps F, v = .ref r ∧ (r, ro) ∈ new ∧ LX ro (txV ps) ∧ (ps.map (·.1)).Perm ((pairSums ds).map fun v => rowT mk v.toNat) ∧ ps.Pairwise (fun a b => ltCps b.1 a.1 = false) ∧ Cons ps F
end
namespace hf_pairs
noncomputable def st_ (g0 : Mine.Cx) (mg mb : Mine.Loc) (A : PySem.Around) (E : PySem.Value → PySem.Shared → Prop) (s : PySem.Shared) (dl : PySem.Addr) (dob : PySem.Obj) (dvs : List PySem.Value) (mk : Nat) (tn : Int) (tm tt : PySem.Tok) : Prop := ∀ {ds : List Int} (O : OkAt mg mb g0 s) (Ro : Room A 5) (hd : s.heap.get? dl = some dob) (hdo : LO dob dvs) (hI : Ints dvs ds) (hds : ∀ d ∈ ds, 1 ≤ d ∧ d ≤ 7) (hn : 1 ≤ ds.length) (hn6 : ds.length ≤ 6) (hmk : mk < 55296 ∧ mk ≠ 46 ∧ mk ≠ 10 ∧ mk ≠ 13), wpAny (model g0.prog g0.w) A (call (.ref 168) [.ref dl, mkS [mk] tm, .int tn tt]) (Back g0 s.heap (RPairs mk ds)) E s
noncomputable abbrev T_ := (((Mine.Cx × (Mine.Loc × Mine.Loc)) × (PySem.Around × ((PySem.Value → PySem.Shared → Prop) × PySem.Shared))) × ((PySem.Addr × (PySem.Obj × (List PySem.Value))) × ((Nat × Int) × (PySem.Tok × PySem.Tok))))
theorem ne_ : Nonempty T_ := ⟨by repeat' (first | apply Prod.mk | exact default | exact nAr | exact nCx | exact nSh | constructor)⟩
noncomputable def Q_ (p : T_) : Prop := st_ p.1.1.1 p.1.1.2.1 p.1.1.2.2 p.1.2.1 p.1.2.2.1 p.1.2.2.2 p.2.1.1 p.2.1.2.1 p.2.1.2.2 p.2.2.1.1 p.2.2.1.2 p.2.2.2.1 p.2.2.2.2
noncomputable def w_ : T_ := @Classical.epsilon _ ne_ fun p => ¬ Q_ p
noncomputable def g0 := w_.1.1.1
noncomputable def A := w_.1.2.1
noncomputable def s := w_.1.2.2.2
noncomputable def dl := w_.2.1.1
noncomputable def dob := w_.2.1.2.1
noncomputable def dvs := w_.2.1.2.2
noncomputable def mk := w_.2.2.1.1
noncomputable def tn := w_.2.2.1.2
noncomputable def tm := w_.2.2.2.1
noncomputable def tt := w_.2.2.2.2
set_option maxHeartbeats 2000000 in
theorem main_ : st_ g0 w_.1.1.2.1 w_.1.1.2.2 A w_.1.2.2.1 s dl dob dvs mk tn tm tt := by
  intro ds O Ro hd hdo hI hds hn hn6 hmk
  refine enterC (name := "_law_pairs") (f := 167) (i := 27) (n := 4) (binds := [(Str.ofString "dots", .ref dl), (Str.ofString "mark", mkS [mk] tm), (Str.ofString "turn", .int tn tt)]) (by decide) O Ro (fun pm => by rfl) ?_ (by decide) (by rfl) (by rfl) (by rfl) ?_
  · intro n0 x hx
    simp only [List.mem_cons, List.not_mem_nil, or_false] at hx
    rcases hx with rfl | rfl | rfl
    · exact .inl k__law_pairs_dots
    · exact .inr ⟨k__law_pairs_mark, by rfl⟩
    · exact .inl k__law_pairs_turn
  intro L cells hL G Rd hC
  have hC' : CellsAre (bindC (envX (Str.ofString "_law_pairs") (scopeOf 27) L 168 (.ref 167) (cellsFrom (L + 1) (scopeOf 27).names [])).kindOf [(Str.ofString "dots", .ref dl), (Str.ofString "mark", mkS [mk] tm), (Str.ofString "turn", .int tn tt)] fun _ => none) [(Str.ofString "mark", L + 1)] cells := hC
  rw [bindC_l (show _ from k__law_pairs_dots), bindC_c (show _ from k__law_pairs_mark), bindC_l (show _ from k__law_pairs_turn), bindC] at hC'
  rw [bindL_l (show _ from k__law_pairs_dots), bindL_c (show _ from k__law_pairs_mark), bindL_l (show _ from k__law_pairs_turn), bindL]
  refine exE1 hC'.one fun oc h_0 => anE2 h_0 fun e_1 hoc => ?_
  clear h_0
  subst e_1
  have hoc' : oc.data = .cell (some (mkS [mk] tm)) := hoc
  have hd0 : (hideT s.heap).get? dl = some dob := hideT_get hd (O.notTab hd hdo.cls)
  have hvl := hI.length
  show WB _ _ _ _ _ _ _ (execs (_ :: _ :: _ :: _ :: _ :: []) (envX (Str.ofString "_law_pairs") (scopeOf 27) L 168 (.ref 167) [(Str.ofString "mark", L + 1)])) _
  refine ex_assignL ks__law_pairs k__law_pairs_ends ?_
  refine e_list rfl ?_
  refine args_cons (e_strS [10] rfl fun e1 => ?_)
  refine args_cons (e_strS [13] rfl fun e2 => ?_)
  refine args_cons (e_strS [13, 10] rfl fun e3 => ?_)
  refine args_nil ⟨by simp, fun el fel => ?_⟩
  have heo : LX (lstObj [mkS [10] e1, mkS [13] e2, mkS [13, 10] e3]) (txV [([10], e1), ([13], e2), ([13, 10], e3)]) := ⟨0, rfl⟩
  refine ex_assignComp (cl := [(Str.ofString "mark", L + 1)]) rfl ks__law_pairs k__law_pairs_rows (by decide) (fun (x : Int) v => ∃ t, v = .int x t) ds
    (fun r ys T => ∃ Rs done, ys = txV Rs ∧ done ++ r = ds ∧ Rs.map (·.1) = rowsAt mk done 0 ∧ Cons Rs T)
    (by rfl) (by rfl) (by decide) (by rfl) (by rfl) (by decide) (by omega) rfl G ?_
  refine e_local ks__law_pairs k__law_pairs_dots (v := .ref dl) (by kwd_inv) ?_
  refine it_listS Rd.handled (.inl hd0) hdo fun I o fI hY hself => ?_
  refine ⟨I, o, _, [(dl, dob)], rfl, rfl, ?_, hself, fun p hp => by rw [List.mem_singleton.mp hp]; exact .inl hd0, ⟨[], [], rfl, rfl, rfl, Cons.nil _⟩, ?_, ?_⟩
  · refine hY.mono (by simp [hvl]) fun i P P' h1 h2 v hv => ?_
    rw [List.getElem?_map] at h1 h2
    have h3 := congrArg (fun l => l[i]?) hI
    simp only [List.getElem?_map] at h3
    cases hp : dvs[i]? with
    | none => rw [hp] at h1; cases h1
    | some p =>
      cases hq : ds[i]? with
      | none => rw [hq] at h2; cases h2
      | some q =>
        rw [hp, hq] at h3
        rw [hp] at h1
        rw [hq] at h2
        simp only [Option.map_some, Option.some.injEq] at h1 h2 h3
        rw [← h1] at hv; rw [← h2]
        have hv' : v = p := hv
        subst hv'
        cases v <;> simp [intOf] at h3
        exact ⟨_, by rw [h3]⟩
  · intro x r ys T v h₀c Cc mC e_2 e_4 Gc atc hmx hfl
    refine exE2 e_2 fun Rs done h_0 => anE4 h_0 fun e_3 hdone hRs hC => exE1 e_4 fun tv e_5 => ?_
    clear h_0 e_2 e_4
    subst e_3
    subst e_5
    have hx : x ∈ ds := by rw [← hdone]; simp
    have hx1 := hds x hx
    refine e_bin (e_bin ?_)
    refine e_strS [46] rfl fun _ => ?_
    refine n_local rfl (by rfl) (by rfl) hmx ?_
    have hxn : (x.toNat : Int) = x := Int.toNat_of_nonneg (by omega)
    refine hxn ▸ ?_
    refine ss_mul (by omega) (by omega) fun k0 => ?_
    refine n_free (o := oc) (c := L + 1) (by rfl) (.inr (by rfl)) (by rfl) (.inl (atc _ _ (.inr (by simp)))) hoc' ?_
    refine ss_addF (by intro e; have := congrArg List.length e; simp at this; omega) (by simp) (by simp; omega) fun k hk hk0 => ?_
    refine ⟨Rs ++ [(rowT mk x.toNat, k)], done ++ [x], by simp [txV, rowT], by simp [hdone], ?_, ?_⟩
    · unfold rowsAt at hRs ⊢; simp [hRs]
    · refine (Eq.symm flo_setF) ▸ ?_
      intro p hp
      refine (hC.add (x := rowT mk x.toNat) (by rw [← hfl]; exact hk) hk0) p ?_ |>.imp id fun h => ⟨h.1, fun q hq => h.2 q ?_⟩
      · rcases List.mem_append.mp hp with h | h
        · exact .tail _ h
        · rw [List.mem_singleton.mp h]; exact .head _
      · rcases List.mem_append.mp hq with h | h
        · exact .tail _ h
        · rw [List.mem_singleton.mp h]; exact .head _
  intro D k ys T e_6 hD
  refine exE2 e_6 fun Rs done h_0 => anE4 h_0 fun e_7 hdone hRs hC => ?_
  clear h_0 e_6
  subst e_7
  rw [List.append_nil] at hdone
  subst hdone
  refine ex_assignL ks__law_pairs k__law_pairs_pairs ?_
  refine e_list rfl (args_nil ⟨by simp, fun pl fpl => ?_⟩)
  have hm : ∃ m3, upd (upd (setF (upd (upd (upd (fun _ => none) (Str.ofString "dots") (.ref dl)) (Str.ofString "turn") (.int tn tt)) (Str.ofString "ends") (.ref el)) T) (Str.ofString "rows") (.ref D)) (Str.ofString "pairs") (.ref pl) = m3 ∧ m3 (Str.ofString "dots") = some (.ref dl) ∧ m3 (Str.ofString "turn") = some (.int tn tt) ∧ m3 (Str.ofString "ends") = some (.ref el) ∧
      m3 (Str.ofString "rows") = some (.ref D) ∧ m3 (Str.ofString "pairs") = some (.ref pl) ∧ flo m3 = T := ⟨_, rfl, by kwd_inv, by kwd_inv, by kwd_inv, by kwd_inv, by kwd_inv, by simp only [flo_updK, String.reduceEq, if_false, flo_setF]⟩
  refine exE1 hm fun m3 h_0 => anE7 h_0 fun em3 x1 x2 x3 x4 x5 x6 => ?_
  clear h_0 hm
  have em3' : ∀ {m' : Loc}, m' = m3 → m' = m3 := id
  refine (Eq.symm (show upd (upd (setF _ T) (Str.ofString "rows") (.ref D)) (Str.ofString "pairs") (.ref pl) = m3 from em3)) ▸ ?_
  clear em3
  have hfin : ∀ (M : Nat) m N, (∀ d ∈ done, 1 ≤ d ∧ d ≤ M) → SendJ (hideT s.heap) mk done dl (L + 1) oc el (lstObj [mkS [10] e1, mkS [13] e2, mkS [13, 10] e3]) tn M m N → WB g0 (A.deeper (envX (Str.ofString "_law_pairs") (scopeOf 27) L 168 (.ref 167) [(Str.ofString "mark", L + 1)])) (fun _ _ => False) (hideT s.heap) L m N (execs [pairsRet] (envX (Str.ofString "_law_pairs") (scopeOf 27) L 168 (.ref 167) [(Str.ofString "mark", L + 1)])) fun fl m N => RPairs mk done (match fl with | .ret v => v | _ => .none) N := by
    intro M m N hM J
    refine via fun ξ κ=>?_
    obtain ⟨_, _, _, _, _, rl, ro, Rs, pl, po, Ps, C, _, _, _, _, mp, hpl, hpo, hPs, hC, _, hPC⟩ := J
    refine κ ?_;clear κ ξ
    have hp := pairs_all mk done M hM
    rw [← hPs] at hp
    have hps : Ps.length < 64 := by
      have h1 := hp.length_eq
      rw [List.length_map, List.length_map] at h1
      refine (Eq.symm h1) ▸ ?_
      have : ∀ l : List Int, l.length ≤ 6 → (pairSums l).length < 64 := by
        intro l hl
        match l, hl with
        | [], _ => simp [pairSums]
        | [a], _ => simp [pairSums]
        | [a, b], _ => simp [pairSums]
        | [a, b, c], _ => simp [pairSums]
        | [a, b, c, d], _ => simp [pairSums]
        | [a, b, c, d, e], _ => simp [pairSums]
        | [a, b, c, d, e, f], _ => simp [pairSums]
        | a :: b :: c :: d :: e :: f :: g :: r, h => simp at h
      exact this done hn6
    show WB _ _ _ _ _ _ _ (execs (.Return (some (.Call (.Name _ _) _ [] _)) _ :: []) _) _
    refine ex_ret ?_
    refine e_callb G ks__law_pairs k__law_pairs_sorted (id := "sorted") (by decide) rfl ?_
    refine args_cons (e_local ks__law_pairs k__law_pairs_pairs mp ?_)
    refine args_nil ?_
    refine c_sortS hpl hpo.lo hps fun r rob ps' fr hrX hperm hpw => ?_
    refine exI4 r rob ps' (flo m) ⟨rfl, .head _, hrX, (hperm.map _).trans hp, hpw, fun p hp' => ?_⟩
    refine anE3 (hC p (hPC p (hperm.mem_iff.mp hp'))) fun a b c => ?_
    exact ⟨a, b, fun q hq => c q (hPC q (hperm.mem_iff.mp hq))⟩
  refine exE1 (max_of hn) fun M0 h_0 => anE2 h_0 fun hM1 hM2 => ?_
  clear h_0
  have hM3 := hds M0 hM1
  refine via fun ξ κ=>?_
  obtain ⟨M, e_8⟩ : ∃ M : Nat, M0 = M := ⟨M0.toNat, by omega⟩
  refine κ ?_;clear κ ξ
  subst e_8
  refine ex_forN 0 M (fun i m N => SendJ (hideT s.heap) mk done dl (L + 1) oc el (lstObj [mkS [10] e1, mkS [13] e2, mkS [13, 10] e3]) tn i m N) Rd.handled ks__law_pairs k__law_pairs_sending (by decide) (by omega) ?_ ?_ ?_
  · refine e_callt G ks__law_pairs k__law_pairs_range (id := "range") (by decide) rfl ?_
    refine args_cons ?_
    refine e_callb G ks__law_pairs k__law_pairs_max (id := "max") (by decide) rfl ?_
    refine args_cons (e_local ks__law_pairs k__law_pairs_dots x1 ?_)
    refine args_nil ?_
    refine c_max Rd.handled (.inl hd0) hdo hI (by omega) fun M2 t2 h1 h2 => ?_
    have eM : M2 = (M : Int) := Int.le_antisymm (hM2 _ h1) (h2 _ hM1)
    subst eM
    refine args_nil ?_
    refine c_range1 fun r t1 u1 v1 fr => rngI r _ t1 u1 v1 (.inr (.head _)) (by omega) (by omega) ⟨x1, ⟨tt, x2⟩, x3, by simp, by simp, D, _, Rs, pl, _, [], Rs, x4, .inr (.tail _ (.tail _ (.head _))), ⟨k, rfl⟩, hRs, x5, .inr (.tail _ (.head _)), ⟨0, rfl⟩, rfl, ?_, fun p hp => hp, fun p hp => nomatch hp⟩
    rw [x6]; exact hC
  · intro i m N tk hi J
    refine (send_turn (e1 := e1) (e2 := e2) (e3 := e3) (tm := tm) G Rd hd0 hdo hI hds hn hn6 hoc' hmk heo (by omega) J).mono fun f m' N' q => ?_
    refine via fun ξ κ=>?_
    obtain ⟨e_9, q⟩ := q
    refine κ ?_;clear κ ξ
    subst e_9
    exact q
  · intro m N J
    exact hfin M m N (fun d hd => ⟨(hds d hd).1, hM2 d hd⟩) J
end hf_pairs
theorem f_pairs {g0 mg mb A E s dl dob dvs mk tn tm tt} : hf_pairs.st_ g0 mg mb A E s dl dob dvs mk tn tm tt := Mine.hk hf_pairs.ne_ (P := hf_pairs.Q_) hf_pairs.main_ (((g0, (mg, mb)), (A, (E, s))), ((dl, (dob, dvs)), ((mk, tn), (tm, tt))))
section
variable {prog : Program} {w : World} {g0 : Cx} {mg mb : Loc} {A : Around} {E : Value → Shared → Prop} {s : Shared}
end
end Mine

end

section
open PySem PySem.W PyProof.Rows
namespace Mine
noncomputable abbrev frAddrs (l : List Env) : List Addr := l.filterMap (·.frame)
noncomputable def FunOK (H : Heap) : List Env → Prop
  | [] => True
  | env :: rest => env.scope.kind ≠ .module ∧ (∃ L o, env.frame = some L ∧ 54 < L ∧ H.get? L = some o ∧ (∀ vs, o.data ≠ .fields vs)) ∧ FunOK H rest
theorem FunOK.keeps {H H' : Heap} (k : ∀ b o, H.get? b = some o → 54 < b → (∀ vs, o.data ≠ .fields vs) → ∃ o', H'.get? b = some o' ∧ (∀ vs, o'.data ≠ .fields vs)) : ∀ {l : List Env}, FunOK H l → FunOK H' l
  | [], _ => trivial
  | _ :: _, ⟨a, ⟨L, o, b, c, d, e⟩, r⟩ => by
    obtain ⟨o', d', e'⟩ := k L o d c e
    exact ⟨a, ⟨L, o', b, c, d', e'⟩, FunOK.keeps k r⟩
theorem FunOK.mem {H : Heap} : ∀ {l : List Env}, FunOK H l → ∀ b ∈ frAddrs l, 54 < b ∧ ∃ o, H.get? b = some o ∧ ∀ vs, o.data ≠ .fields vs
  | [], _, b, hb => nomatch hb
  | env :: rest, ⟨a, ⟨L, o, b1, c, d, e⟩, r⟩, b, hb => by
    unfold frAddrs at hb
    rw [List.filterMap_cons, b1] at hb
    rcases List.mem_cons.mp hb with rfl | hb
    · exact ⟨c, o, d, e⟩
    · exact FunOK.mem r b hb
theorem FunOK.frames {H : Heap} {as : List Addr} : ∀ {l : List Env}, FunOK H l → (∀ b ∈ frAddrs l, b ∈ as) → H.FunFrames (hideAll H as) l
  | [], _, _ => trivial
  | env :: rest, ⟨a, ⟨L, o, b1, c, d, e⟩, r⟩, h => by
    have hL : L ∈ as := h L (by unfold frAddrs; rw [List.filterMap_cons, b1]; exact .head _)
    refine ⟨a, ⟨L, o, b1, hideAll_none _ hL, d, e⟩, FunOK.frames r fun b hb => h b ?_⟩
    unfold frAddrs; rw [List.filterMap_cons, b1]; exact .tail _ hb
noncomputable def UpF (l : List Env) (H H' : Heap) : Prop := ∀ b ∈ frAddrs l, ∀ o, H.get? b = some o → (∀ vs, o.data ≠ .fields vs) → ∃ sl, H'.get? b = some { o with slots := sl }
theorem UpF.then {l : List Env} {H H' H'' : Heap} (x : UpF l H H') (y : H'.UpToSlots H'') : UpF l H H'' := fun b hb o e n => by
  obtain ⟨sl, e1⟩ := x b hb o e n
  obtain ⟨sl2, e2⟩ := y b _ e1 n
  exact ⟨sl2, e2⟩
noncomputable def Flown (g0 : Cx) (l : List Env) (H : Heap) (held : Option Addr) (e : Value) (s' : Shared) : Prop := ∃ ea a0 B, e = .ref ea ∧ s'.gens = g0.gens ∧ s'.os = g0.os ∧ 0 < s'.toks ∧ TabOK g0 B ∧
  (match held with | none => Heap.FlyingW B l ea (.type "ZeroDivisionError") a0 s'.heap | some L => Heap.HeldW B l ea (.type "ZeroDivisionError") a0 L s'.heap) ∧
  (∀ b o, H.get? b = some o → ¬ isTab b → b ∉ frAddrs l → B.get? b = some o) ∧ UpF l H s'.heap
section
variable {prog : Program} {w : World} {g0 : Cx} {mg mb : Loc} {A : Around} {E : Value → Shared → Prop} {h₀ : Heap} {L : Addr} {m : Loc} {N : Led} {env : Env} {l : List Env} {H : Heap}
theorem flown_noted {e : Value} {s' : Shared} {Lf : Addr} {Q : Unit → Shared → Prop} (hfr : A.frames = some (env :: l)) (hf : env.frame = some Lf) (x : Flown g0 (env :: l) H none e s')
    (h : ∀ s'', Flown g0 (env :: l) H (some Lf) e s'' → Q () s'') : wpAny (model g0.prog g0.w) A (noteFrame e env) Q E s' := by
  refine exE3 x fun ea a0 B h_0 => anE8 h_0 fun e_0 x1 x2 x3 x4 x5 x6 x7 => ?_
  clear h_0 x
  subst e_0
  refine wpAny_looks_onW hfr hf x5 fun h' hh hs => h _ ⟨ea, a0, B, rfl, x1, x2, x3, x4, hh, x6, x7.then hs⟩
theorem heldW_set {M : Model} {base : Heap} {e Lf : Addr} {cls a0 : Value} {s : Shared} {Q : Unit → Shared → Prop} (hh : Heap.HeldW base l e cls a0 Lf s.heap)
    (hQ : ∀ h', Heap.HeldW base l e cls a0 Lf h' → s.heap.UpToSlots h' → Q () { s with heap := h' }) : wpAny M A (setFlight (.ref e) (some Lf)) Q E s := by
  refine anE4 hh fun hkb hen hl h_0 => exE5 h_0 fun oe vs T oT ts h_1 => anE9 h_1 fun he hcls hd h1 hnT hTe hT hdT h3 => ?_
  clear h_0 h_1
  have hsz3 : 3 < ts.size := (Array.getElem?_eq_some_iff.mp h3).1
  have other : ∀ b, b ≠ T → (s.heap.update T (Obj.mapFields (·.setIfInBounds 3 ((some Lf : Option Addr).elim Value.none fun f => rawInt f)))).get? b = s.heap.get? b :=
    fun b hb => Heap.get?_update_other _ _ (Ne.symm hb)
  have noRecord : ∀ b o, s.heap.get? b = some o → (∀ vs, o.data ≠ .fields vs) → b ≠ T := fun b o hb hnf q => by
    rw [q, hT] at hb; injection hb with hb; subst hb; exact hnf ts hdT
  unfold setFlight
  refine wpAny_bind (wpAny_field he hd h1 ?_)
  rw [if_pos (show (Value.ref T != Value.none) = true from by simp)]
  refine wpAny_setField hT hdT hsz3 (hQ _ ⟨fun b o hbo => (other b fun q => by rw [q, hnT] at hbo; cases hbo).trans (hkb b o hbo), hen,
    hl.of_keeps fun b o hb hnf => ⟨o, (other b (noRecord b o hb hnf)).trans hb, rfl⟩, ?_⟩ fun b o hb hn => ⟨o.slots, (other b (noRecord b o hb hn)).trans hb⟩)
  exact ⟨oe, vs, T, _, _, (other e (Ne.symm hTe)).trans he, hcls, hd, h1, hnT, hTe, Heap.get?_update_self _ hT (Obj.isFreed_of_fields (Obj.data_mapFields hdT _)), Obj.data_mapFields hdT _, by simp [hsz3]⟩
theorem flown_back {e : Value} {s' : Shared} {Lf : Addr} (hf : env.frame = some Lf) (x : Flown g0 l H (some Lf) e s') (hE : ∀ e s'', Flown g0 l H (some Lf) e s'' → E e s'') : cameBackBy (model g0.prog g0.w) A env E e s' := by
  refine exE3 x fun ea a0 B h_0 => anE8 h_0 fun e_0 x1 x2 x3 x4 x5 x6 x7 => ?_
  clear h_0 x
  subst e_0
  have x5' := x5
  refine anE4 x5' fun hkb hen hl h_0 => exE5 h_0 fun oe vs T oT ts h_1 => anE9 h_1 fun he hcls hd h1 hnT hTe hT hdT h3 => ?_
  clear h_0 h_1
  unfold cameBackBy
  refine wpAny_bind (wpAny_field he hd h1 ?_)
  rw [if_neg (by simp), hf]
  exact heldW_set x5 fun h' hh hs => hE _ _ ⟨ea, a0, B, rfl, x1, x2, x3, x4, hh, x6, x7.then hs⟩
theorem flown_leaves {e : Value} {s' : Shared} {Lf : Addr} {H0 : Heap} {Q : Unit → Shared → Prop} (hf : env.frame = some Lf) (x : Flown g0 (env :: l) H (some Lf) e s')
    (hk : ∀ b o, H0.get? b = some o → ¬ isTab b → b ≠ Lf ∧ H.get? b = some o) (hF : ∀ b ∈ frAddrs l, 54 < b) (h : ∀ s'', Flown g0 l H0 none e s'' → Q () s'') : wpAny (model g0.prog g0.w) A (leaving env e) Q E s' := by
  refine exE3 x fun ea a0 B h_0 => anE8 h_0 fun e_0 x1 x2 x3 x4 x5 x6 x7 => ?_
  clear h_0 x
  subst e_0
  unfold leaving
  refine wpAny_bind (wpAny_noteFrame_againW hf x5.2.2.2 ?_)
  refine wpAny_landsW x5 fun h' hfl hs => ?_
  obtain ⟨k1, k2, ⟨_, _, k3⟩, k4⟩ := hfl
  have nT : ∀ b ∈ frAddrs l, ¬ isTab b := fun b hb ht => absurd (isTab_le ht) (Nat.not_le.mpr (hF b hb))
  refine h _ ⟨ea, a0, B, rfl, x1, x2, x3, x4, ⟨k1, k2, k3, k4⟩, fun b o e n1 n2 => ?_, ?_⟩
  · obtain ⟨k1, k2⟩ := hk b o e n1
    refine x6 b o k2 n1 fun hm => ?_
    unfold frAddrs at hm
    rw [List.filterMap_cons, hf] at hm
    rcases List.mem_cons.mp hm with h | h
    · exact k1 h
    · exact n2 h
  · intro b hb o e n
    exact (x7.then hs) b (by unfold frAddrs; rw [List.filterMap_cons, hf]; exact .tail _ hb) o (hk b o e (nT b hb)).2 n
theorem zde_self : isSubtype (.type "ZeroDivisionError") (.type "ZeroDivisionError") = pure true := by rw [isSubtype_type]; kernel_rfl
theorem raised_leaves {s s' : Shared} {ea : Addr} {H0 : Heap} {Q : Unit → Shared → Prop} {cn : Str} {cs : Scope} {a0 : Addr} {ccd : Value} {cl : List (Str × Addr)} (hfr : A.frames = some (envX cn cs L a0 ccd cl :: l)) (hk : cs.kind ≠ .module) (I : Inv g0 h₀ L m N s) (hx : Heap.NewExc s.heap s'.heap ea "ZeroDivisionError")
    (hs1 : s'.gens = s.gens) (hs2 : s'.os = s.os) (hs3 : s.toks ≤ s'.toks) (h0 : ∀ b o, H0.get? b = some o → ¬ isTab b → h₀.get? b = some o) (hF : FunOK H0 l) (h : ∀ s'', Flown g0 l H0 none (.ref ea) s'' → Q () s'') :
    wpAny (model g0.prog g0.w) A (leaving (envX cn cs L a0 ccd cl) (.ref ea)) Q E s' := by
  obtain ⟨ob, t, he, hcls, hd⟩ := hx.there
  have nT : ∀ b, 54 < b → ¬ isTab b := fun b hb ht => absurd (isTab_le ht) (Nat.not_le.mpr hb)
  have hL54 : 54 < L := Nat.lt_of_lt_of_le I.t54.1 I.fr.above
  have hF1 : FunOK s.heap (envX cn cs L a0 ccd cl :: l) := by
    obtain ⟨oL, es, ep, e1, e2, e3⟩ := I.fr.ns
    refine ⟨hk, ⟨L, oL, rfl, hL54, e1, fun vs e => by rw [e2] at e; cases e⟩, hF.keeps fun b o e n1 n2 => ⟨o, I.fr.keep _ _ (h0 b o e (nT b n1)), n2⟩⟩
  have hFF := hF1.frames (as := frAddrs (envX cn cs L a0 ccd cl :: l)) fun b hb => hb
  have keepsB : ∀ b o, s.heap.get? b = some o → b ∉ frAddrs (envX cn cs L a0 ccd cl :: l) → (hideAll s.heap (frAddrs (envX cn cs L a0 ccd cl :: l))).get? b = some o := fun b o e n => hideAll_get _ e n
  have hLm : L ∈ frAddrs (envX cn cs L a0 ccd cl :: l) := List.mem_cons_self
  refine wpAny_leaving_firstW (base := hideAll s.heap (frAddrs (envX cn cs L a0 ccd cl :: l))) (a0 := t) hfr (hFF.of_keeps fun b o hb _ => ⟨o, hx.keeps b o hb, rfl⟩) rfl he (fun b o hb => hx.keeps b o (of_hideAll _ hb)) ?_ hd rfl rfl fun h' hL => ?_
  · cases q : (hideAll s.heap (frAddrs (envX cn cs L a0 ccd cl :: l))).get? ea with
    | none => rfl
    | some o => have := of_hideAll _ q; rw [hx.new] at this; cases this
  · obtain ⟨k1, ⟨_, _, k2⟩, k3, k4⟩ := hL
    have hea : (hideAll s.heap (frAddrs (envX cn cs L a0 ccd cl :: l))).get? ea = none := by
      cases q : (hideAll s.heap (frAddrs (envX cn cs L a0 ccd cl :: l))).get? ea with
      | none => rfl
      | some o => have := of_hideAll _ q; rw [hx.new] at this; cases this
    have isF : ∀ b ∈ frAddrs (envX cn cs L a0 ccd cl :: l), 54 < b ∧ ∃ o, s.heap.get? b = some o ∧ ∀ vs, o.data ≠ .fields vs := fun b hb => hF1.mem b hb
    rw [hcls] at k3
    refine h _ ⟨ea, t, _, rfl, hs1.trans I.gens, hs2.trans I.os, Nat.lt_of_lt_of_le I.fl.2 hs3, I.tab.keeps (fun b o hb e => keepsB b o e fun hm => nT b (isF b hm).1 hb) (fun b o e hc => keepsB b o e fun hm => ?_), ⟨k1, hea, k2, k3⟩, fun b o e n1 n2 => ?_, ?_⟩
    · obtain ⟨_, o', e', n'⟩ := isF b hm
      rw [e] at e'; cases e'
      obtain ⟨vs, _, _, hd, _⟩ := hc
      exact n' vs hd
    · have h1 := h0 b o e n1
      refine keepsB b o (I.fr.keep _ _ h1) fun hm => ?_
      rcases List.mem_cons.mp (show b ∈ L :: frAddrs l from hm) with h | h
      · rw [h] at h1
        have := Heap.lt_size h1
        exact absurd (Nat.lt_of_lt_of_le this I.fr.above) (Nat.lt_irrefl _)
      · exact n2 h
    · intro b hb o e n
      have h54 := (hF.mem b hb).1
      have e1 := I.fr.keep _ _ (h0 b o e (nT b h54))
      exact k4 b o (hx.keeps b o e1) n
end
end Mine

end

section
open PySem PySem.W PyProof.Rows
namespace Mine
end Mine

end

section
open PySem PySem.W PyProof.Rows
namespace Mine
open Builtin.Int (intBits)
section
variable {prog : Program} {w : World} {g0 : Cx} {mg mb : Loc} {A : Around} {E : Value → Shared → Prop} {s : Shared} {h₀ : Heap} {L : Addr} {m : Loc} {N : Led} {l : List Env}
variable {cn : Str} {cs : Scope} {a0 : Addr} {ccd : Value} {cl : List (Str × Addr)}
theorem enterX {name : String} {f i : Nat} {args : List Value} {binds : List (Str × Value)} {R : Value → Led → Prop} {s : Shared} {n : Nat} {Eb : Addr → Value → Shared → Prop}
    (hf : (name, f, i) ∈ fnTable) (O : OkAt mg mb g0 s) (Ro : Room A (n + 1))
    (hbind : ∀ pm, bindArgs (fnX (Str.ofString name) (Str.ofString name) (paramsOf i) (bodyOf i) (scopeOf i) [] .none .none .none pm none (.ref f) .none) ⟨args, []⟩ = pure binds)
    (hloc : ∀ x ∈ binds, (scopeOf i).names.lookup x.1 = some .local)
    (hcell : ((scopeOf i).names.all fun x => x.2 != .cell) = true)
    (hco : (scopeOf i).isCoroutine = false) (hgen : (scopeOf i).isGenerator = false) (hk : (scopeOf i).kind = .function)
    (h : ∀ L, 54 < L → Gd mg mb (hideT s.heap) → Room (A.deeper (envX (Str.ofString name) (scopeOf i) L (f + 1) (.ref f) [])) n →
      WB g0 (A.deeper (envX (Str.ofString name) (scopeOf i) L (f + 1) (.ref f) [])) (Eb L) (hideT s.heap) L (fun y => binds.reverse.lookup y) []
        (execs (bodyOf i) (envX (Str.ofString name) (scopeOf i) L (f + 1) (.ref f) [])) fun fl m N => R (match fl with | .ret v => v | _ => .none) N)
    (hE : ∀ L, L = s.heap.objs.size → 54 < L → ∀ e s', Eb L e s' → wpAny (model g0.prog g0.w) (A.deeper (envX (Str.ofString name) (scopeOf i) L (f + 1) (.ref f) [])) (leaving (envX (Str.ofString name) (scopeOf i) L (f + 1) (.ref f) []) e) (fun _ s'' => E e s'') E s')
    (hfk : (scopeOf i).names.lookup floorKey = none := by rfl) :
    wpAny (model g0.prog g0.w) A (call (.ref (f + 1)) args) (Back g0 s.heap R) E s := by
  have nf : (fun y => binds.reverse.lookup y) floorKey = none := binds_floor fun x hx e => by have := hloc x hx; rw [e, hfk] at this; cases this
  refine exE1 ((O.gd.fn _ hf).2) fun pm h_0 => anE2 h_0 fun hfn hcr => ?_
  clear h_0
  refine wpAny_call (codeAny_call_def (fd := fnX (Str.ofString name) (Str.ofString name) (paramsOf i) (bodyOf i) (scopeOf i) [] .none .none .none pm none (.ref f) .none) (body := bodyOf i) (binds := binds)
    (by have := Ro.depth; show A.depth < 1000; omega) hfn rfl O.gd.lim hcr rfl (BindsTo.of_eq (hbind pm)) (fun x hx => ?_) hloc (fun h₁ hns hk₁ => ?_) hco hgen hk)
  · have := List.all_eq_true.mp hcell x hx
    simpa using this
  have hL : 54 < s.heap.objs.size := O.t54
  have I : Inv g0 (hideT s.heap) s.heap.objs.size (fun y => binds.reverse.lookup y) [] { s with heap := h₁, toks := s.toks + binds.length } :=
    ⟨O.gens, O.os, O.tab.keeps (fun b o _ e => hk₁ b o e) fun b o e _ => hk₁ b o e, ⟨by rw [strip_none nf]; exact hns, fun b o e => hk₁ b o (of_hideT e), Nat.le_of_eq (hideT_size _)⟩, (fun p hp => nomatch hp), List.nodup_nil, ⟨by rw [hideT_size]; exact hL, fun b hb => by
      cases q : (hideT s.heap).get? b with
      | none => rfl
      | some o => exact absurd hb (hideT_tab q)⟩, by rw [flo_none nf]; exact Nat.zero_le _, Nat.lt_of_lt_of_le O.pos (Nat.le_add_right _ _)⟩
  have W := (h s.heap.objs.size hL (O.gd.keeps (HK.hide _)) (Ro.deeper _)).run _ I
  refine wpAny_mono W (fun fl s' ⟨m', N', I', S, r⟩ => ?_) fun e s' q => hE _ rfl hL e s' q
  refine ⟨I'.gens, I'.os, I'.tab, N', ⟨fun b o e nT => ?_, fun p hp => ⟨(I'.led p hp).1, (S.fresh p hp).elim (fun hm => nomatch hm) fun hg => Nat.le_trans (Nat.le_of_lt hns.lt) hg⟩, I'.nd, ?_⟩, r⟩
  · exact S.keep b o (hk₁ b o e) (Nat.ne_of_lt (Heap.lt_size e)) (fun hm => nomatch hm) nT
  · have h1 := hns.lt
    have h2 := S.size
    exact Nat.le_trans (Nat.le_of_lt h1) h2
theorem frames_deep {env : Env} (h : A.frames = some l) : (A.deeper env).frames = some (env :: l) := Around.frames_deeper h
theorem int_divmod0 {a : Int} {t u : Tok} (O : OkAt mg mb g0 s) (Ro : Room A 2) (hfr : A.frames = some l) (hF : FunOK s.heap l) :
    wpAny (model g0.prog g0.w) A (call (.ref 73) [.int a t, .int 0 u]) (fun _ _ => False) (Flown g0 l s.heap none) s := by
  refine wpAny_mono (enterX (name := "int_divmod") (f := 72) (i := 8) (n := 1) (R := fun _ _ => False) (E := Flown g0 l s.heap none) (Eb := fun L e s' => ∃ sr m N ea, e = .ref ea ∧ Inv g0 (hideT s.heap) L m N sr ∧ Heap.NewExc sr.heap s'.heap ea "ZeroDivisionError" ∧ s'.gens = sr.gens ∧ s'.os = sr.os ∧ sr.toks ≤ s'.toks)
    (binds := [(Str.ofString "a", .int a t), (Str.ofString "b", .int 0 u)]) (by decide) O Ro (fun pm => by rfl) ?_ (by rfl) (by rfl) (by rfl) (by rfl) ?_ ?_) (fun v s' ⟨_, _, _, _, _, h⟩ => h) fun _ _ e => e
  · intro x hx
    simp only [List.mem_cons, List.not_mem_nil, or_false] at hx
    rcases hx with rfl | rfl
    · exact k_int_divmod_a
    · exact k_int_divmod_b
  · intro L hL G Rd
    refine WB.cm entry2 ?_
    show WB _ _ _ _ _ _ _ (execs (_ :: []) _) _
    refine ex_if ?_
    refine t_cmp ?_
    refine e_local ks_int_divmod k_int_divmod_b (v := .int 0 u) (by kwd_inv) ?_
    refine e_int fun _ => ?_
    refine i_eq (truthy_b ?_)
    refine if_t1 (show ((0 : Int) == 0) = true from rfl) ?_
    show WB _ _ _ _ _ _ _ (execs (.Raise (some (.Name (Str.ofString "ZeroDivisionError") _)) none _ :: []) _) _
    refine ex_cons ⟨fun s1 I => ?_⟩
    refine Raise_classB Rd.handled excClass_ZeroDivisionError zde_self (Calls.Name_function_global ks_int_divmod k_int_divmod_ZeroDivisionError (Calls.loadGlobal_builtin (G.g.keeps I.fr.keep) (G.bi ("ZeroDivisionError", .type "ZeroDivisionError") (by decide)).1 (G.b.keeps I.fr.keep) (G.bi ("ZeroDivisionError", .type "ZeroDivisionError") (by decide)).2 ⟨rfl, rfl⟩) (by decide)) fun h' e hx => ?_
    exact exI4 s1 _ _ e ⟨rfl, I, hx, rfl, rfl, Nat.le_refl _⟩
  · intro L hLs hL e s' e_1
    refine exE4 e_1 fun sr m N ea h_0 => anE6 h_0 fun e_2 I hx h1 h2 h3 => ?_
    clear h_0 e_1
    subst e_2
    exact raised_leaves (frames_deep hfr) (by rw [ks_int_divmod]; decide) I hx h1 h2 h3 (fun b o e n => hideT_get e n) hF fun s'' x => x
theorem WB.callE {f : Value} {vs : List Value} {Q : Value → Loc → Led → Prop} {Et : Value → Shared → Prop} (G : Gd mg mb h₀)
    (hs : ∀ s, Inv g0 h₀ L m N s → OkAt mg mb g0 s → wpAny (model g0.prog g0.w) A (call f vs) (fun _ _ => False) Et s) : WB g0 A Et h₀ L m N (call f vs) Q := ⟨fun s I => by
  have hsz : h₀.objs.size ≤ s.heap.objs.size := Nat.le_trans I.fr.above (Nat.le_of_lt I.fr.ns.lt)
  exact wpAny_mono (hs s I ⟨I.gens, I.os, I.tab, Nat.lt_of_lt_of_le I.t54.1 hsz, G.keeps fun b o e _ => I.fr.keep b o e, I.fl.2⟩) (fun _ _ h => h.elim) fun _ _ e => e⟩
end
end Mine

end

section
open PySem PySem.W PyProof.Rows
namespace Mine
open Builtin.Int (intBits)
section
variable {prog : Program} {w : World} {g0 : Cx} {mg mb : Loc} {A : Around} {E : Value → Shared → Prop} {s : Shared} {h₀ : Heap} {L : Addr} {m : Loc} {N : Led} {env : Env}
end
namespace hpowers_turn0
noncomputable def st_ (g0 : Mine.Cx) (mg mb : Mine.Loc) (A : PySem.Around) (h₀ : PySem.Heap) (L : PySem.Addr) (m : Mine.Loc) (N : Mine.Led) (l0 : List PySem.Env) (sl ql : PySem.Addr) (so qo : PySem.Obj) (svs ws : List PySem.Value) (ss : List Int) (p : Nat → Int) (n i : Nat) (far near : Int) : Prop := ∀ (G : Gd mg mb h₀) (Rd : Room A 29) (hP : PL m sl ql n i far near) (hs : At h₀ N sl so) (hso : LO so svs) (hS : Ints svs ss) (hss : ∀ x ∈ ss, 0 ≤ x ∧ x ≤ 64) (hsl : ss.length ≤ 16) (hi : i < n) (hn : n ≤ 6) (hq : (ql, qo) ∈ N) (hqo : LX qo ws) (hI : Ints ws ((List.range (i + 1)).map p)) (hp : ∀ i, i ≤ n → -(2 ^ 25) ≤ p i ∧ p i ≤ 2 ^ 25) (hsq : sl ≠ ql) (hPB : PB p (sumP (i + 1) ss) (i + 1) i = (2 * (n : Int) - 2 ^ (i + 1)) * p (i + 1)) (hD0 : 2 * (n : Int) - 2 ^ (i + 1) = 0) (hFr : A.frames = some (envP L :: l0)) (hF : FunOK h₀ l0) (hfar : far < 2 ^ 4500) (hnear : 0 ≤ near) (hnf : near < far), WB g0 A (fun e s' => ∃ sc m N, Inv g0 h₀ L m N sc ∧ Flown g0 (envP L :: l0) sc.heap none e s') h₀ L m N (execs (forBody 28 1) (envP L)) fun _ _ _ => False
noncomputable abbrev T_ := ((((Mine.Cx × Mine.Loc) × (Mine.Loc × (PySem.Around × PySem.Heap))) × ((PySem.Addr × Mine.Loc) × (Mine.Led × ((List PySem.Env) × PySem.Addr)))) × (((PySem.Addr × PySem.Obj) × (PySem.Obj × ((List PySem.Value) × (List PySem.Value)))) × (((List Int) × ((Nat → Int) × Nat)) × (Nat × (Int × Int)))))
theorem ne_ : Nonempty T_ := ⟨by repeat' (first | apply Prod.mk | exact default | exact nAr | exact nCx | exact nSh | constructor)⟩
noncomputable def Q_ (p : T_) : Prop := st_ p.1.1.1.1 p.1.1.1.2 p.1.1.2.1 p.1.1.2.2.1 p.1.1.2.2.2 p.1.2.1.1 p.1.2.1.2 p.1.2.2.1 p.1.2.2.2.1 p.1.2.2.2.2 p.2.1.1.1 p.2.1.1.2 p.2.1.2.1 p.2.1.2.2.1 p.2.1.2.2.2 p.2.2.1.1 p.2.2.1.2.1 p.2.2.1.2.2 p.2.2.2.1 p.2.2.2.2.1 p.2.2.2.2.2
noncomputable def w_ : T_ := @Classical.epsilon _ ne_ fun p => ¬ Q_ p
noncomputable def L := w_.1.2.1.1
noncomputable def m := w_.1.2.1.2
noncomputable def N := w_.1.2.2.1
noncomputable def l0 := w_.1.2.2.2.1
noncomputable def p := w_.2.2.1.2.1
noncomputable def n := w_.2.2.1.2.2
noncomputable def i := w_.2.2.2.1
noncomputable def far := w_.2.2.2.2.1
noncomputable def near := w_.2.2.2.2.2
set_option maxHeartbeats 1000000 in
theorem main_ : st_ w_.1.1.1.1 w_.1.1.1.2 w_.1.1.2.1 w_.1.1.2.2.1 w_.1.1.2.2.2 L m N l0 w_.1.2.2.2.2 w_.2.1.1.1 w_.2.1.1.2 w_.2.1.2.1 w_.2.1.2.2.1 w_.2.1.2.2.2 w_.2.2.1.1 p n i far near := by
  intro G Rd hP hs hso hS hss hsl hi hn hq hqo hI hp hsq hPB hD0 hFr hF hfar hnear hnf
  refine powers_head G Rd hP hs hso hS hss hsl hi hn hq hqo hI hp hsq hPB fun m2 N side tr tp tsd hP2 hs hq hr2 hp2 hs2 hside => ?_
  show WB _ _ _ _ _ _ _ (execs (_ :: _ :: _ :: []) _) _
  have pw : ∀ k, k ≤ 6 → (1 : Int) ≤ 2 ^ k ∧ (2 : Int) ^ k ≤ 64 := by decide
  have hpw := pw (i + 1) (by omega)
  generalize hD : 2 * (n : Int) - 2 ^ (i + 1) = D at *
  subst hside
  have hD0 : D = 0 := hD0
  have bp := hp (i + 1) (by omega)
  have hDp := mul_bd (a := 64) (x := D) (by omega) (by omega) bp.1 bp.2
  have bf : intBits far ≤ 4500 := bits_le (by omega) hfar
  have e25' : (64 : Int) * 2 ^ 25 = 2147483648 := by decide
  rw [e25'] at hDp
  have e63 : (2 : Int) ^ 63 = 9223372036854775808 := by decide
  have hA : intBits (D * p (i + 1) * far + (if D > 0 then near else -near)) ≤ 4500 + 64 := by
    by_cases h : D > 0
    · rw [if_pos h]; exact big_bits (by omega) (by omega) hnear hnf hfar
    · rw [if_neg h, ← bits_neg, Int.neg_add, Int.neg_neg, ← Int.neg_mul]
      exact big_bits (by omega) (by omega) hnear hnf hfar
  generalize (if D > 0 then near else -near) = side at *
  refine exE1 hP2.far fun tf hfr => ?_
  refine ex_assign2 Rd.handled ks__law_powers k__law_powers_quotient k__law_powers_rest ?_
  refine e_callf G ks__law_powers k__law_powers_int_divmod (i := 8) (f := 72) (by decide) rfl ?_
  refine args_cons ?_
  refine e_callf G ks__law_powers k__law_powers_add (i := 10) (f := 79) (by decide) rfl ?_
  refine args_cons ?_
  refine e_callf G ks__law_powers k__law_powers_mul (i := 11) (f := 86) (by decide) rfl ?_
  refine args_cons (e_local ks__law_powers k__law_powers_right hr2 ?_)
  refine args_cons (e_local ks__law_powers k__law_powers_far hfr ?_)
  refine args_nil ?_
  refine WB.callI (z := (D * p (i + 1) * far)) G (fun s' O' _ => f_mul O' (Rd.le (by omega)) (mul_ok (m := 64) (n := 4500) (bits_abs (by omega) (by omega)) bf (by omega))) ?_
  intro t1 new1
  refine args_cons (e_local ks__law_powers k__law_powers_side hs2 ?_)
  refine args_nil ?_
  refine WB.callI (z := (D * p (i + 1) * far + side)) G (fun s' O' _ => f_add O' (Rd.le (by omega))) ?_
  intro t2 new2
  refine args_cons ?_
  refine e_callf G ks__law_powers k__law_powers_mul (i := 11) (f := 86) (by decide) rfl ?_
  refine args_cons (e_local ks__law_powers k__law_powers_parts hp2 ?_)
  refine args_cons (e_local ks__law_powers k__law_powers_far hfr ?_)
  refine args_nil ?_
  refine WB.callI (z := (D * far)) G (fun s' O' _ => f_mul O' (Rd.le (by omega)) (mul_ok (m := 8) (n := 4500) (bits_abs (by omega) (by omega)) bf (by omega))) ?_
  intro t3 new3
  refine args_nil ?_
  refine (Eq.symm (show D * far = 0 by rw [hD0]; exact Int.zero_mul _)) ▸ ?_
  refine WB.callE G fun s' I' O' => ?_
  have hF' : FunOK s'.heap (envP L :: l0) := by
    refine exE3 I'.fr.ns fun oL es ep h_0 => anE3 h_0 fun e1 e2 e3 => ?_
    clear h_0
    exact ⟨by rw [show (envP L).scope.kind = .function from ks__law_powers]; decide, ⟨L, oL, rfl, Nat.lt_of_lt_of_le I'.t54.1 I'.fr.above, e1, fun vs e => by rw [e2] at e; cases e⟩, hF.keeps fun b o e n1 n2 => ⟨o, I'.fr.keep _ _ e, n2⟩⟩
  exact wpAny_mono (int_divmod0 O' (Rd.le (by omega)) hFr hF') (fun _ _ h => h) fun e s'' x => exI3 s' _ _ ⟨I', x⟩
end hpowers_turn0
theorem powers_turn0 {g0 mg mb A h₀ L m N l0 sl ql so qo svs ws ss p n i far near} : hpowers_turn0.st_ g0 mg mb A h₀ L m N l0 sl ql so qo svs ws ss p n i far near := Mine.hk hpowers_turn0.ne_ (P := hpowers_turn0.Q_) hpowers_turn0.main_ ((((g0, mg), (mb, (A, h₀))), ((L, m), (N, (l0, sl)))), (((ql, so), (qo, (svs, ws))), ((ss, (p, n)), (i, (far, near)))))
section
variable {prog : Program} {w : World} {g0 : Cx} {mg mb : Loc} {A : Around} {E : Value → Shared → Prop} {s : Shared} {h₀ : Heap} {L : Addr} {m : Loc} {N : Led} {env : Env}
end
namespace hf_powers0
noncomputable def st_ (g0 : Mine.Cx) (mg mb : Mine.Loc) (A : PySem.Around) (s : PySem.Shared) (l : List PySem.Env) (sl : PySem.Addr) (so : PySem.Obj) (svs : List PySem.Value) (ss : List Int) (p : Nat → Int) (far near : Int) (t1 t2 t3 : PySem.Tok) : Prop := ∀ (O : OkAt mg mb g0 s) (Ro : Room A 30) (hsl : s.heap.get? sl = some so) (hso : LO so svs) (hS : Ints svs ss) (hss : ∀ x ∈ ss, 0 ≤ x ∧ x ≤ 64) (hsn : ss.length ≤ 16) (hp0 : p 0 = 4) (hp : ∀ i, i ≤ 4 → -(2 ^ 25) ≤ p i ∧ p i ≤ 2 ^ 25) (hPB : ∀ i, i < 3 → PB p (sumP (i + 1) ss) (i + 1) i = (2 * ((4 : Nat) : Int) - 2 ^ (i + 1)) * p (i + 1)) (hfar : far < 2 ^ 4500) (hnear : 0 ≤ near) (hnf : near < far) (hfr : A.frames = some l) (hF : FunOK s.heap l), wpAny (model g0.prog g0.w) A (call (.ref 175) [.ref sl, .int ((4 : Nat) : Int) t1, .int far t2, .int near t3]) (fun _ _ => False) (Flown g0 l s.heap none) s
noncomputable abbrev T_ := ((((Mine.Cx × Mine.Loc) × (Mine.Loc × PySem.Around)) × ((PySem.Shared × (List PySem.Env)) × (PySem.Addr × PySem.Obj))) × ((((List PySem.Value) × (List Int)) × ((Nat → Int) × Int)) × ((Int × PySem.Tok) × (PySem.Tok × PySem.Tok))))
theorem ne_ : Nonempty T_ := ⟨by repeat' (first | apply Prod.mk | exact default | exact nAr | exact nCx | exact nSh | constructor)⟩
noncomputable def Q_ (p : T_) : Prop := st_ p.1.1.1.1 p.1.1.1.2 p.1.1.2.1 p.1.1.2.2 p.1.2.1.1 p.1.2.1.2 p.1.2.2.1 p.1.2.2.2 p.2.1.1.1 p.2.1.1.2 p.2.1.2.1 p.2.1.2.2 p.2.2.1.1 p.2.2.1.2 p.2.2.2.1 p.2.2.2.2
noncomputable def w_ : T_ := @Classical.epsilon _ ne_ fun p => ¬ Q_ p
noncomputable def g0 := w_.1.1.1.1
noncomputable def A := w_.1.1.2.2
noncomputable def s := w_.1.2.1.1
noncomputable def l := w_.1.2.1.2
noncomputable def sl := w_.1.2.2.1
noncomputable def p := w_.2.1.2.1
noncomputable def far := w_.2.1.2.2
noncomputable def near := w_.2.2.1.1
noncomputable def t1 := w_.2.2.1.2
noncomputable def t2 := w_.2.2.2.1
noncomputable def t3 := w_.2.2.2.2
theorem main_ : st_ g0 w_.1.1.1.2 w_.1.1.2.1 A s l sl w_.1.2.2.2 w_.2.1.1.1 w_.2.1.1.2 p far near t1 t2 t3 := by
  intro O Ro hsl hso hS hss hsn hp0 hp hPB hfar hnear hnf hfr hF
  refine wpAny_mono (enterX (name := "_law_powers") (f := 174) (i := 28) (n := 29) (R := fun _ _ => False) (E := Flown g0 l s.heap none) (Eb := fun L e s' => ∃ sc m N, Inv g0 (hideT s.heap) L m N sc ∧ Flown g0 (envP L :: l) sc.heap (some L) e s')
    (binds := [(Str.ofString "sums", .ref sl), (Str.ofString "size", .int ((4 : Nat) : Int) t1), (Str.ofString "far", .int far t2), (Str.ofString "near", .int near t3)]) (by decide) O Ro (fun pm => by rfl) ?_ (by rfl) (by rfl) (by rfl) (by rfl) ?_ ?_) (fun v s' ⟨_, _, _, _, _, h⟩ => h) fun _ _ e => e
  · intro x hx
    simp only [List.mem_cons, List.not_mem_nil, or_false] at hx
    rcases hx with rfl | rfl | rfl | rfl
    · exact k__law_powers_sums
    · exact k__law_powers_size
    · exact k__law_powers_far
    · exact k__law_powers_near
  · intro L hL G Rd
    have hsl0 := hideT_get hsl (O.notTab hsl hso.cls)
    refine WB.cm entry4 ?_
    show WB _ _ _ _ _ _ _ (execs (_ :: _ :: _ :: []) _) _
    refine ex_assignL ks__law_powers k__law_powers_powers ?_
    refine e_list rfl ?_
    repeat tb_rel
    refine ⟨by simp, fun ql fql => ?_⟩
    have hne : sl ≠ ql := Nat.ne_of_lt (Nat.lt_of_lt_of_le (Heap.lt_size hsl0) fql.ge)
    have hfr' : (A.deeper (envP L)).frames = some (envP L :: l) := frames_deep hfr
    have hF' : FunOK (hideT s.heap) l := hF.keeps fun b o e n1 n2 => ⟨o, hideT_get e fun ht => absurd (isTab_le ht) (Nat.not_le.mpr n1), n2⟩
    refine ex_forNE (Et := fun e s' => ∃ sc m N, Inv g0 (hideT s.heap) L m N sc ∧ Flown g0 (envP L :: l) sc.heap none e s') 1 4 (fun i m N => i ≤ 2 ∧ m (Str.ofString "sums") = some (.ref sl) ∧ m (Str.ofString "powers") = some (.ref ql) ∧ (∃ t, m (Str.ofString "size") = some (.int ((4 : Nat) : Int) t)) ∧ (∃ t, m (Str.ofString "far") = some (.int far t)) ∧ (∃ t, m (Str.ofString "near") = some (.int near t)) ∧ ∃ qo ws, (ql, qo) ∈ N ∧ LX qo ws ∧ Ints ws ((List.range (i + 1)).map p)) Rd.handled ks__law_powers k__law_powers_k (by decide) (by decide) ?_ ?_ ?_ ?_
    · refine e_callt G ks__law_powers k__law_powers_range (id := "range") (by decide) rfl ?_
      repeat tb_rel
      refine c_range2 fun r t1 u1 v1 _ => rngI r _ t1 u1 v1 (.inr (.head _)) (by omega) (by omega) ⟨by omega, by kwd_inv, by kwd_inv, ⟨_, by kwd_inv⟩, ⟨_, by kwd_inv⟩, ⟨_, by kwd_inv⟩, exI2 _ _ ⟨.tail _ (.head _), ⟨0, rfl⟩, ?_⟩⟩
      have : (List.range (0 + 1)).map p = [(((4 : Nat) : Int))] := by simp [List.range_succ, hp0]
      rw [this]; exact Ints.nil.cons
    · intro i m N tk hi e_1
      refine anE7 e_1 fun hi2 h1 h2 h3 h4 h5 h_0 => exE2 h_0 fun qo ws h_1 => anE3 h_1 fun hq hqo hI => ?_
      clear h_0 h_1 e_1
      have hP : PL (upd m (Str.ofString "k") (.int (1 + i) tk)) sl ql 4 i far near := ⟨by kwd_inv, by kwd_inv, by kwd_inv, by kwd_inv, by kwd_inv, tk, by kwd_inv⟩
      by_cases h : i = 2
      · subst h
        exact (powers_turn0 (l0 := l) G Rd hP (.inl hsl0) hso hS hss hsn hi (by decide) hq hqo hI hp hne (hPB 2 (by decide)) (by decide) hfr' hF' hfar hnear hnf).mono fun f m' N' h => h.elim
      · have hpt : 2 * ((4 : Nat) : Int) - 2 ^ (i + 1) ≠ 0 := by
          have : i = 0 ∨ i = 1 := by omega
          rcases this with rfl | rfl <;> decide
        refine (powers_turn G Rd hP (.inl hsl0) hso hS hss hsn hi (by decide) hq hqo hI hp hne (hPB i (by omega)) hpt hfar hnear hnf).mono fun f m' N' x_ => ?_
        refine anE4 x_ fun e hP' _ h_0 => exE2 h_0 fun qo' ws' h_1 => anE3 h_1 fun a b c => ?_
        clear h_0 h_1 x_
        subst e
        exact ⟨by omega, hP'.sums, hP'.powers, hP'.size, hP'.far, hP'.near, qo', ws', a, b, c⟩
    · intro m N e_2
      refine anE2 e_2 fun h _ => ?_
      clear e_2
      omega
    · intro e s' e_3
      refine exE3 e_3 fun sc m N h_0 => anE2 h_0 fun I x => ?_
      clear h_0 e_3
      exact flown_noted hfr' rfl x fun s'' y => flown_back rfl y fun e s3 z => exI2 sc m ⟨N, I, z⟩
  · intro L hLs hL e s' e_4
    refine exE3 e_4 fun sc m N h_0 => anE2 h_0 fun I x => ?_
    clear h_0 e_4
    refine flown_leaves (H0 := s.heap) rfl x (fun b o e n => ⟨?_, I.fr.keep _ _ (hideT_get e n)⟩) (fun b hb => (hF.mem b hb).1) fun s'' z => z
    rw [hLs]; exact Nat.ne_of_lt (Heap.lt_size e)
end hf_powers0
theorem f_powers0 {g0 mg mb A s l sl so svs ss p far near t1 t2 t3} : hf_powers0.st_ g0 mg mb A s l sl so svs ss p far near t1 t2 t3 := Mine.hk hf_powers0.ne_ (P := hf_powers0.Q_) hf_powers0.main_ ((((g0, mg), (mb, A)), ((s, l), (sl, so))), (((svs, ss), (p, far)), ((near, t1), (t2, t3))))
section
variable {prog : Program} {w : World} {g0 : Cx} {mg mb : Loc} {A : Around} {E : Value → Shared → Prop} {s : Shared} {h₀ : Heap} {L : Addr} {m : Loc} {N : Led} {env : Env}
end
end Mine

end

section
open PySem PySem.W PyProof.Rows
namespace Mine
open Builtin.Int (intBits)
section
variable {prog : Program} {w : World} {g0 : Cx} {mg mb : Loc} {A : Around} {E : Value → Shared → Prop} {s : Shared} {h₀ : Heap} {L : Addr} {m : Loc} {N : Led} {l : List Env} {H : Heap} {env : Env}
theorem fnoted {e : Value} {s' : Shared} {Lf : Addr} {Q : Unit → Shared → Prop} (hfr : A.frames = some (env :: l)) (hf : env.frame = some Lf) (x : Flown g0 (env :: l) H none e s')
    (h : ∀ s'', s''.toks = s'.toks → Flown g0 (env :: l) H (some Lf) e s'' → Q () s'') : wpAny (model g0.prog g0.w) A (noteFrame e env) Q E s' := by
  refine exE3 x fun ea a0 B h_0 => anE8 h_0 fun e_1 x1 x2 x3 x4 x5 x6 x7 => ?_
  clear h_0 x
  subst e_1
  refine wpAny_looks_onW hfr hf x5 fun h' hh hs => h _ rfl ⟨ea, a0, B, rfl, x1, x2, x3, x4, hh, x6, x7.then hs⟩
theorem flands {e : Value} {s' : Shared} {Lf : Addr} {Q : Unit → Shared → Prop} (x : Flown g0 l H (some Lf) e s')
    (h : ∀ s'', s''.toks = s'.toks → Flown g0 l H none e s'' → Q () s'') : wpAny (model g0.prog g0.w) A (setFlight e none) Q E s' := by
  refine exE3 x fun ea a0 B h_0 => anE8 h_0 fun e_2 x1 x2 x3 x4 x5 x6 x7 => ?_
  clear h_0 x
  subst e_2
  exact wpAny_landsW x5 fun h' hh hs => h _ rfl ⟨ea, a0, B, rfl, x1, x2, x3, x4, hh, x6, x7.then hs⟩
theorem flands2 {e : Value} {s' : Shared} {Q : Unit → Shared → Prop} (x : Flown g0 l H none e s')
    (h : ∀ s'', s''.toks = s'.toks → Flown g0 l H none e s'' → Q () s'') : wpAny (model g0.prog g0.w) A (setFlight e none) Q E s' := by
  refine exE3 x fun ea a0 B h_0 => anE8 h_0 fun e_3 x1 x2 x3 x4 x5 x6 x7 => ?_
  clear h_0 x
  subst e_3
  exact lands_againW x5 fun h' hh hs => h _ rfl ⟨ea, a0, B, rfl, x1, x2, x3, x4, hh, x6, x7.then hs⟩
end
namespace hflown_inv
noncomputable def st_ (g0 : Mine.Cx) (h₀ : PySem.Heap) (L : PySem.Addr) (m : Mine.Loc) (N : Mine.Led) (sc s' : PySem.Shared) (cn : PySem.Str) (cs : PySem.Scope) (a0 : PySem.Addr) (ccd : PySem.Value) (cl : List (PySem.Str × PySem.Addr)) : Prop := ∀ {e : PySem.Value} (I : Inv g0 h₀ L m N sc) (x : Flown g0 [envX cn cs L a0 ccd cl] sc.heap none e s') (ht : sc.toks ≤ s'.toks), Inv g0 h₀ L m N s' ∧ ∀ b o, sc.heap.get? b = some o → b ≠ L → ¬ isTab b → s'.heap.get? b = some o
noncomputable abbrev T_ := (((Mine.Cx × (PySem.Heap × PySem.Addr)) × (Mine.Loc × (Mine.Led × PySem.Shared))) × ((PySem.Shared × (PySem.Str × PySem.Scope)) × (PySem.Addr × (PySem.Value × (List (PySem.Str × PySem.Addr))))))
theorem ne_ : Nonempty T_ := ⟨by repeat' (first | apply Prod.mk | exact default | exact nAr | exact nCx | exact nSh | constructor)⟩
noncomputable def Q_ (p : T_) : Prop := st_ p.1.1.1 p.1.1.2.1 p.1.1.2.2 p.1.2.1 p.1.2.2.1 p.1.2.2.2 p.2.1.1 p.2.1.2.1 p.2.1.2.2 p.2.2.1 p.2.2.2.1 p.2.2.2.2
noncomputable def w_ : T_ := @Classical.epsilon _ ne_ fun p => ¬ Q_ p
noncomputable def L := w_.1.1.2.2
noncomputable def sc := w_.1.2.2.2
noncomputable def s' := w_.2.1.1
noncomputable def cn := w_.2.1.2.1
noncomputable def cs := w_.2.1.2.2
noncomputable def a0 := w_.2.2.1
noncomputable def ccd := w_.2.2.2.1
noncomputable def cl := w_.2.2.2.2
theorem main_ : st_ w_.1.1.1 w_.1.1.2.1 L w_.1.2.1 w_.1.2.2.1 sc s' cn cs a0 ccd cl := by
  intro e I x ht
  refine exE3 x fun ea a0' B h_0 => anE8 h_0 fun e_4 x1 x2 x3 x4 x5 x6 x7 => ?_
  clear h_0 x
  subst e_4
  have hF : frAddrs [envX cn cs L a0 ccd cl] = [L] := rfl
  have keep : ∀ b o, sc.heap.get? b = some o → b ≠ L → ¬ isTab b → s'.heap.get? b = some o := fun b o e n1 n2 => x5.1 _ _ (x6 b o e n2 (by rw [hF]; simpa using n1))
  refine ⟨⟨x1, x2, x4.keeps (fun b o _ e => x5.1 _ _ e) (fun b o e _ => x5.1 _ _ e), ⟨?_, fun b o e => keep b o (I.fr.keep _ _ e) (fun h => ?_) (fun h => ?_), I.fr.above⟩, fun p hp => ⟨keep _ _ (I.led p hp).1 (I.led p hp).2.1 (I.led p hp).2.2.2, (I.led p hp).2⟩, I.nd, I.t54, Nat.le_trans I.fl.1 ht, x3⟩, keep⟩
  · refine exE3 I.fr.ns fun oL es ep h_0 => anE3 h_0 fun e1 e2 e3 => ?_
    clear h_0
    refine exE1 (x7 L (by rw [hF]; exact .head _) oL e1 (fun vs e => by rw [e2] at e; cases e)) fun sl q => ?_
    exact ⟨_, es, ep, q, e2, e3⟩
  · subst h
    exact absurd (Nat.lt_of_lt_of_le (Heap.lt_size e) I.fr.above) (Nat.lt_irrefl _)
  · rw [I.t54.2 b h] at e; cases e
end hflown_inv
theorem flown_inv {g0 h₀ L m N sc s' cn cs a0 ccd cl} : hflown_inv.st_ g0 h₀ L m N sc s' cn cs a0 ccd cl := Mine.hk hflown_inv.ne_ (P := hflown_inv.Q_) hflown_inv.main_ (((g0, (h₀, L)), (m, (N, sc))), ((s', (cn, cs)), (a0, (ccd, cl))))
section
variable {prog : Program} {w : World} {g0 : Cx} {mg mb : Loc} {A : Around} {E : Value → Shared → Prop} {s : Shared} {h₀ : Heap} {L : Addr} {m : Loc} {N : Led} {l : List Env} {H : Heap} {env : Env}
end
namespace hInv_whole
noncomputable def st_ (g0 : Mine.Cx) (s : PySem.Shared) (h₀ : PySem.Heap) (L : PySem.Addr) (m : Mine.Loc) (N : Mine.Led) : Prop := ∀ (I : Inv g0 h₀ L m N s), ∃ N1, Inv g0 h₀ L m N1 s ∧ (∀ p ∈ N, p ∈ N1) ∧ ∀ b o, s.heap.get? b = some o → b ≠ L → ¬ isTab b → h₀.get? b = some o ∨ (b, o) ∈ N1
noncomputable abbrev T_ := ((Mine.Cx × (PySem.Shared × PySem.Heap)) × (PySem.Addr × (Mine.Loc × Mine.Led)))
theorem ne_ : Nonempty T_ := ⟨by repeat' (first | apply Prod.mk | exact default | exact nAr | exact nCx | exact nSh | constructor)⟩
noncomputable def Q_ (p : T_) : Prop := st_ p.1.1 p.1.2.1 p.1.2.2 p.2.1 p.2.2.1 p.2.2.2
noncomputable def w_ : T_ := @Classical.epsilon _ ne_ fun p => ¬ Q_ p
noncomputable def s := w_.1.2.1
noncomputable def h₀ := w_.1.2.2
noncomputable def L := w_.2.1
noncomputable def N := w_.2.2.2
theorem main_ : st_ w_.1.1 s h₀ L w_.2.2.1 N := by
  intro I
  let pick : Nat → Option (Addr × Obj) := fun b => match s.heap.get? b with
    | some o => if b = L ∨ b = 47 ∨ b = 54 ∨ (h₀.get? b).isSome = true ∨ b ∈ N.map (·.1) then none else some (b, o)
    | none => none
  have hp : ∀ b p, pick b = some p → p.1 = b ∧ s.heap.get? b = some p.2 ∧ b ≠ L ∧ ¬ isTab b ∧ h₀.get? b = none ∧ b ∉ N.map (·.1) := by
    intro b p e
    simp only [pick] at e
    cases h : s.heap.get? b with
    | none => rw [h] at e; cases e
    | some o =>
      rw [h] at e
      dsimp only at e
      split at e
      · cases e
      · rename_i hn
        simp only [not_or] at hn
        refine anE5 hn fun n1 n2 n3 n4 n5 => ?_
        clear hn
        cases e
        refine ⟨rfl, rfl, n1, ?_, by simpa using n4, n5⟩
        rintro (h | h)
        · exact n2 h
        · exact n3 h
  refine ⟨(List.range s.heap.objs.size).filterMap pick ++ N, ⟨I.gens, I.os, I.tab, I.fr, fun p hm => ?_, ?_, I.t54, I.fl⟩, fun p hm => List.mem_append_right _ hm, fun b o e n1 n2 => ?_⟩
  · rcases List.mem_append.mp hm with hm | hm
    · refine exE1 (List.mem_filterMap.mp hm) fun b h_0 => anE2 h_0 fun _ e => ?_
      clear h_0
      refine anE6 (hp b p e) fun q1 q2 q3 q4 q5 _ => ?_
      rw [q1]; exact ⟨q2, q3, q5, q4⟩
    · exact I.led p hm
  · rw [List.map_append]
    refine List.nodup_append.mpr ⟨?_, I.nd, fun a ha b hb e => ?_⟩
    · have e1 : ((List.range s.heap.objs.size).filterMap pick).map (·.1) = (List.range s.heap.objs.size).filter fun b => (pick b).isSome := by
        have : ∀ r : List Nat, (r.filterMap pick).map (·.1) = r.filter fun b => (pick b).isSome := by
          intro r
          induction r with
          | nil => rfl
          | cons b r ih =>
            rw [List.filterMap_cons, List.filter_cons]
            cases h : pick b with
            | none => simpa using ih
            | some p =>
              simp only [List.map_cons, ih, Option.isSome_some, if_true]
              rw [(hp b p h).1]
        exact this _
      rw [e1]
      exact List.Nodup.sublist List.filter_sublist List.nodup_range
    · subst e
      refine exE1 (List.mem_map.mp ha) fun p h_0 => anE2 h_0 fun hp1 e_5 => ?_
      clear h_0
      subst e_5
      refine exE1 (List.mem_filterMap.mp hp1) fun b' h_0 => anE2 h_0 fun _ e => ?_
      clear h_0
      refine anE6 (hp b' p e) fun q1 _ _ _ _ q6 => ?_
      rw [q1] at hb; exact q6 hb
  · cases h : h₀.get? b with
    | some o' =>
      have := I.fr.keep _ _ h
      rw [e] at this; cases this
      exact .inl rfl
    | none =>
      refine .inr ?_
      by_cases hm : b ∈ N.map (·.1)
      · refine exE1 (List.mem_map.mp hm) fun p h_0 => anE2 h_0 fun hp1 e_6 => ?_
        clear h_0
        subst e_6
        have := (I.led p hp1).1
        rw [e] at this
        cases this
        exact List.mem_append_right _ hp1
      · refine List.mem_append_left _ (List.mem_filterMap.mpr ⟨b, List.mem_range.mpr (Heap.lt_size e), ?_⟩)
        simp only [pick, e]
        rw [if_neg]
        rintro (h1 | h1 | h1 | h1 | h1)
        · exact n1 h1
        · exact n2 (.inl h1)
        · exact n2 (.inr h1)
        · rw [h] at h1; cases h1
        · exact hm h1
end hInv_whole
theorem Inv.whole {g0 s h₀ L m N} : hInv_whole.st_ g0 s h₀ L m N := Mine.hk hInv_whole.ne_ (P := hInv_whole.Q_) hInv_whole.main_ ((g0, (s, h₀)), (L, (m, N)))
section
variable {prog : Program} {w : World} {g0 : Cx} {mg mb : Loc} {A : Around} {E : Value → Shared → Prop} {s : Shared} {h₀ : Heap} {L : Addr} {m : Loc} {N : Led} {l : List Env} {H : Heap} {env : Env}
theorem zde_base : isSubtype (.type "ZeroDivisionError") (.type "BaseException") = pure true := PySem.F.isExc_ZeroDivisionError
theorem zde_nt : isSubtype (.type ((Manifest.find? "ZeroDivisionError").elim "type" fun y => y.metatype)) (.type "tuple") = pure false := PySem.F.notTuple_ZeroDivisionError
variable {cn : Str} {cs : Scope} {a0 : Addr} {ccd : Value} {cl : List (Str × Addr)}
theorem ex_try_ok {body orelse rest : List Stmt} {hd : ExceptHandler} {hs : List ExceptHandler} {pos : Pos} {Q : Flow → Loc → Led → Prop}
    (h : WB g0 A (fun _ _ => False) h₀ L m N (execs body env) fun f m' N' => f = .next ∧ WB g0 A E h₀ L m' N' (execs rest env) Q) :
    WB g0 A E h₀ L m N (execs (.Try body (hd :: hs) [] [] pos :: rest) env) Q := by
  refine ex_cons ⟨fun s I => wpAny_Try_except ?_⟩
  refine wpAny_mono (h.run s I) (fun f s1 ⟨m1, N1, I1, S1, e, q⟩ => ?_) fun _ _ e => e.elim
  subst e
  refine wpAny_mono (wpAny_execs_nil (s := s1) (Q := fun f s' => f = .next ∧ s' = s1) ⟨rfl, rfl⟩) (fun f s2 e => ?_) fun _ _ e => e
  refine anE2 e fun e_7 e_8 => ?_
  clear e
  subst e_7
  subst e_8
  exact ⟨m1, N1, I1, S1, q⟩
theorem ex_try_zde {body rest : List Stmt} {np hp pos px pa pc : Pos} {x : Str} {k : Nat} {Q : Flow → Loc → Led → Prop} (G : Gd mg mb h₀) (hk : cs.kind = .function) (hz : cs.names.lookup (Str.ofString "ZeroDivisionError") = some .globalImplicit) (hx : cs.names.lookup x = some .local) (hfr : A.frames = some [envX cn cs L a0 ccd cl])
    (h : ∀ N1, (∀ p ∈ N, p ∈ N1) → WB g0 A (fun e s' => ∃ sc m' N', Inv g0 h₀ L m' N' sc ∧ SameBut [""] m m' ∧ (∀ p ∈ N1, p ∈ N') ∧ Flown g0 [envX cn cs L a0 ccd cl] sc.heap none e s' ∧ sc.toks ≤ s'.toks) h₀ L m N1 (execs body (envX cn cs L a0 ccd cl)) fun _ _ _ => False)
    (tail : ∀ m', SameBut [""] m m' → WB g0 A (fun _ _ => False) h₀ L (upd m' x .none) N (execs rest (envX cn cs L a0 ccd cl)) Q) (hfk : (x == floorKey) = false := by decide)
    (hsw : swapsWith (.Constant .none k pc) (some (.Name x px)) pa.line (envX cn cs L a0 ccd cl) = pure false := by rfl) :
    WB g0 A (fun _ _ => False) h₀ L m N (execs (.Try body [.ExceptHandler (some (.Name (Str.ofString "ZeroDivisionError") np)) none [.Assign [.Name x px] (.Constant .none k pc) pa] hp] [] [] pos :: rest) (envX cn cs L a0 ccd cl)) Q := by
  refine ex_cons ⟨fun s I => ?_⟩
  refine wpAny_mono (wpAny_size (Q := fun f s' => f = .next ∧ ∃ m', SameBut [""] m m' ∧ Inv g0 h₀ L (upd m' x .none) N s' ∧ ∀ b o, s.heap.get? b = some o → b ≠ L → ¬ isTab b → s'.heap.get? b = some o) ?_) (fun f s' ⟨sz, e, m', sb, I', kp⟩ => ?_) fun _ _ e => e
  · refine exE1 I.whole fun N1 h_0 => anE3 h_0 fun I1 hsub hall => ?_
    clear h_0
    refine wpAny_Try_except (wpAny_mono ((h N1 hsub).run s I1) (fun f s1 ⟨m1, N1, I1, S1, q⟩ => q.elim) fun e s' ⟨sc, m', N', Isc, sb, hN, x0, ht⟩ => ?_)
    have Icut : Inv g0 h₀ L m' N sc := ⟨Isc.gens, Isc.os, Isc.tab, Isc.fr, fun p hp => Isc.led p (hN p (hsub p hp)), I.nd, Isc.t54, Isc.fl⟩
    have kp0 : ∀ b o, s.heap.get? b = some o → b ≠ L → ¬ isTab b → sc.heap.get? b = some o := fun b o e n1 n2 => by
      rcases hall b o e n1 n2 with h | h
      · exact Isc.fr.keep _ _ h
      · exact (Isc.led _ (hN _ h)).1
    refine fnoted hfr rfl x0 fun s2 t2 x2 => ?_
    refine flands x2 fun s3 t3 x3 => ?_
    refine anE2 (flown_inv Icut x3 (by omega)) fun I3 k3 => ?_
    refine exE3 x3 fun ea a0' B h_0 => anE2 h_0 fun e_9 x5 => ?_
    clear h_0 x3
    subst e_9
    have hT : s3.TypeIs (.ref ea) "ZeroDivisionError" := by
      refine exE1 x5.2.2.2.2.1.there fun ob h_0 => anE2 h_0 fun h1 h2 => ?_
      clear h_0
      exact ⟨ob, h1, h2⟩
    have x3 : Flown g0 [envX cn cs L a0 ccd cl] sc.heap none (.ref ea) s3 := ⟨ea, a0', B, rfl, x5⟩
    refine wpAny_handleBy_builtin (X := "ZeroDivisionError") (T := "ZeroDivisionError") (b := true) zde_base zde_nt zde_self ?_
    refine Calls.Name_function_global hk hz (Calls.loadGlobal_builtin (G.g.keeps I3.fr.keep) (G.bi ("ZeroDivisionError", .type "ZeroDivisionError") (by decide)).1 (G.b.keeps I3.fr.keep) (G.bi ("ZeroDivisionError", .type "ZeroDivisionError") (by decide)).2 ⟨rfl, hT, ?_⟩) (by decide)
    rw [if_pos rfl]
    refine flands2 x3 fun s4 t4 x4 => ?_
    refine anE2 (flown_inv Icut x4 (by omega)) fun I4 k4 => ?_
    have W : WB g0 (A.mark (some (.ref ea))) (fun _ _ => False) h₀ L m' N (execs [.Assign [.Name x px] (.Constant .none k pc) pa] (envX cn cs L a0 ccd cl)) fun f m'' N'' => f = .next ∧ m'' = upd m' x .none ∧ N'' = N := by
      refine ex_assignL hk hx (e_none ?_) hsw hfk
      exact ex_nil ⟨rfl, rfl, rfl⟩
    refine wpAny_mono (W.run s4 I4) (fun f s5 ⟨m5, N5, I5, S5, e1, e2, e3⟩ => ?_) fun _ _ e => e.elim
    subst e1 e2 e3
    refine ⟨rfl, m', sb, I5, fun b o e n1 n2 => ?_⟩
    by_cases hm : b ∈ N5.map (·.1)
    · refine exE1 (List.mem_map.mp hm) fun p h_0 => anE2 h_0 fun hp e_10 => ?_
      clear h_0
      subst e_10
      have := (I.led p hp).1
      rw [e] at this
      cases this
      exact (I5.led p hp).1
    · exact S5.keep b o (k4 b o (kp0 b o e n1 n2) n1 n2) n1 (fun h => absurd h hm) n2
  · subst e
    exact ⟨_, N, I', ⟨fun b o e n1 _ n2 => kp b o e n1 n2, fun p hp => .inl (List.mem_map_of_mem hp), sz⟩, tail m' sb⟩
end
end Mine

end

section
open PySem PySem.W PyProof.Rows
namespace Mine
open PySem.Spec PySem.SeqAt
open Builtin.Int (intBits)
section
variable {prog : Program} {w : World} {g0 : Cx} {mg mb : Loc} {A : Around} {E : Value → Shared → Prop} {s : Shared} {h₀ : Heap} {L : Addr} {m : Loc} {N : Led} {env : Env}
theorem e_strF {x : Str} {k : Nat} {pos : Pos} {Q : Value → Loc → Led → Prop} (l : List Nat) (hl : x = ⟨l.toArray⟩) (h : ∀ t : Nat, flo m ≤ t → 0 < t → Q (mkS l t) (setF m (t + 1)) N) : WB g0 A E h₀ L m N (eval (.Constant (.str x) k pos) env) Q := by
  subst hl
  exact WB.tokF (f := fun k => mkS l k) (fun s Q' E' at_ q => Calls.Constant_str q) h
theorem e_subLast {value slice : Expr} {pos : Pos} {Q : Value → Loc → Led → Prop}
    (h : WB g0 A E h₀ L m N (eval value env) fun o m' N' => WB g0 A E h₀ L m' N' (eval slice env) fun i m'' N'' => ∃ l lo vs t x, o = .ref l ∧ At h₀ N'' l lo ∧ LO lo vs ∧ i = .int (-1) t ∧ vs[vs.length - 1]? = some x ∧ Q x m'' N'')
    (hs : ∀ o i, subscripted slice false o i = operate [o, i] (getItem o i) := by intro _ _; with_unfolding_all rfl) :
    WB g0 A E h₀ L m N (eval (.Subscript value slice pos) env) Q := by
  rw [eval_Subscript]
  refine WB.bind (h.mono fun o m' N' q => WB.bind (WB.holding (q.mono fun i m'' N'' r => WB.at_ ?_)))
  obtain ⟨l, lo, vs, t, x, rfl, hl, ho, rfl, hx, q⟩ := r
  refine ⟨fun s I => ?_⟩
  have hi := ho.isList (I.at hl)
  have hlen : 0 < vs.length := by
    have := (List.getElem?_eq_some_iff.mp hx).1
    omega
  refine wpAny_bind ?_
  rw [getitemInPython_of_ne hi.typeIs.not_modules]
  refine wpAny_bind (wpAny_specialOf hi.typeIs slot_list_getitem.lookup ?_)
  have fin : wpAny (model g0.prog g0.w) A (subscripted slice false (.ref l) (.int (-1) t)) (fun r s₃ => wpAny (model g0.prog g0.w) A (letTemporaryGo value (.ref l) r >>= fun _ => pure r) (fun a s' => ∃ m' N', Inv g0 h₀ L m' N' s' ∧ Step L N'' N' s.heap s'.heap ∧ Q a m' N') E s₃) E s := by
    rw [hs]
    refine wpAny_operating (wpAny_getItem_list_neg hi (by decide) (by simp; omega) (by decide) ?_ (wpAny_bind (wpAny_letTemporaryGo (wpAny_pure ⟨m'', N'', I, .refl .., q⟩))))
    have : (-1 + ((vs.toArray.size : Nat) : Int)).toNat = vs.length - 1 := by simp; omega
    rw [this]; simpa using hx
  first
    | exact wpAny_pure (wpAny_bind fin)
    | exact wpAny_bind (wpAny_pure (wpAny_bind fin))
    | exact wpAny_bind fin
theorem countIn_tx (y : List Nat) : ∀ ps : List (List Nat × Tok), Spec.countIn (.str (toStr y)) ((ps.map fun q => toStr q.1).map PyData.str) = ((ps.countP fun q => toStr q.1 == toStr y : Nat) : Int)
  | [] => rfl
  | q :: r => by
    rw [List.map_cons, List.map_cons, Spec.countIn, countIn_tx y r, List.countP_cons]
    simp only [Spec.same]
    rcases Bool.eq_false_or_eq_true (toStr q.1 == toStr y) with hb | hb <;> simp only [hb, Bool.false_eq_true, if_true, if_false] <;> push_cast <;> omega
theorem c_countS {l : Addr} {lo : Obj} {ps : List (List Nat × Tok)} {y : List Nat} {u : Tok} {Q : Value → Loc → Led → Prop} (hl : At h₀ N l lo) (ho : LO lo (txV ps)) (h : ∀ t, Q (.int ((ps.countP fun q => toStr q.1 == toStr y : Nat) : Int) t) m N) :
    WB g0 A E h₀ L m N (call (.builtin "list.count") [.ref l, mkS y u]) Q :=
  WB.tokR (f := fun t => .int ((ps.countP fun q => toStr q.1 == toStr y : Nat) : Int) t) (fun s Q' E' at_ q => count_list_strs (ho.isList (at_ _ _ hl)) (strsAre_tx ps) (by
    have := countIn_tx y ps
    rw [show Spec.countIn (.str (⟨y.toArray⟩ : Str)) ((ps.map fun q => (⟨q.1.toArray⟩ : Str)).map PyData.str) = _ from this]
    exact q _ _)) h
theorem s_inMark {c : Nat} {t u : Tok} {Q : Value → Loc → Led → Prop} (h : ∀ b : Bool, (b = false → c ≠ 46 ∧ c ≠ 13 ∧ c ≠ 10) → Q (.bool b) m N) : WB g0 A E h₀ L m N (compareOp .In (mkS [c] t) (mkS [46, 13, 10] u)) Q := by
  refine WB.still (a := .bool !(Builtin.Str.occurrences (toStr [46, 13, 10]) (toStr [c]) 0 (toStr [46, 13, 10]).length 1).isEmpty) (fun s Q' E' q => P.in_str (q s.toks)) (h _ fun e => ?_)
  have h1 : Builtin.Str.occurrences (toStr [46, 13, 10]) (toStr [c]) 0 (toStr [46, 13, 10]).length 1 = [] := by
    simpa using e
  have key := StrLaws.occ_head (toStr [46, 13, 10]) (toStr [c]) 1 (Nat.le_refl 1)
  rcases key with ⟨_, k⟩ | ⟨i, r, e2, _⟩
  · have at_ : ∀ i, ([46, 13, 10] : List Nat)[i]? = some c → False := fun i hi => by
      have hlt := (List.getElem?_eq_some_iff.mp hi).1
      refine k i ⟨by rw [str_len, str_len]; simp at hlt ⊢; omega, ?_⟩
      rw [StrLaws.subAt_eq, str_len]
      simp only [beq_iff_eq]
      show (([46, 13, 10] : List Nat).drop i).take 1 = [c]
      rw [List.drop_eq_getElem_cons hlt]
      have := (List.getElem?_eq_some_iff.mp hi).2
      simp [this]
    refine ⟨fun e => at_ 0 (by rw [e]; rfl), fun e => at_ 1 (by rw [e]; rfl), fun e => at_ 2 (by rw [e]; rfl)⟩
  · rw [h1] at e2; cases e2
theorem c_chr {i : Int} {t : Tok} {Q : Value → Loc → Led → Prop} (h0 : 0 ≤ i) (h1 : i < 55296) (h : ∀ k, Q (mkS [i.toNat] k) m N) : WB g0 A E h₀ L m N (call (.builtin "chr") [.int i t]) Q :=
  WB.tok (f := fun k => mkS [i.toNat] k) (fun s Q' E' q => P.chr_of_int (by simp; omega) (q _ _)) h
theorem readsAll_ints (h : Heap) : ∀ {vs : List Value} {xs : List Int}, Ints vs xs → ReadsAll h vs (xs.map PyData.int) []
  | vs, [], hI => by
    have := hI.length
    have : vs = [] := by simpa using this
    subst this; exact .nil
  | vs, x :: xs, hI => by
    refine exE2 hI.uncons fun t vs' h_0 => anE2 h_0 fun eq_0 h' => ?_
    clear h_0
    subst eq_0
    exact .cons (as := []) (bs := []) (.int x t) (readsAll_ints h h')
theorem lay_ints : ∀ xs : List Int, PyData.canLayAll0 (xs.map PyData.int) = true
  | [] => by simp only [List.map_nil, PyData.canLayAll0]
  | x :: r => by rw [List.map_cons]; simp only [PyData.canLayAll0, lay_ints r, PyData.canLay0, Bool.and_self]
theorem depth_ints : ∀ xs : List Int, PyData.depthAll (xs.map PyData.int) = 0
  | [] => by simp only [List.map_nil, PyData.depthAll]
  | x :: r => by rw [List.map_cons]; simp only [PyData.depthAll, depth_ints r, PyData.depth]; rfl
theorem shaped_ints (xs : List Int) : shaped (.list (xs.map PyData.int)) = true := by
  unfold shaped
  simp only [PyData.canLay0, lay_ints, PyData.depth, depth_ints]
  decide
theorem eqv_ints : ∀ xs ys : List Int, PyData.eqvAll (xs.map PyData.int) (ys.map PyData.int) = (xs == ys)
  | [], [] => by simp [PyData.eqvAll]
  | [], _ :: _ => by simp [PyData.eqvAll]
  | _ :: _, [] => by simp [PyData.eqvAll]
  | x :: xs, y :: ys => by
    simp only [List.map_cons, PyData.eqvAll, PyData.eqv, eqv_ints xs ys]; rfl
theorem li_eq {a b : Addr} {ao bo : Obj} {vs ws : List Value} {xs ys : List Int} {Q : Value → Loc → Led → Prop} (Ro : Room A 1) (ha : At h₀ N a ao) (hao : LX ao vs) (hb : At h₀ N b bo) (hbo : LX bo ws) (hx : Ints vs xs) (hy : Ints ws ys)
    (h : Q (.bool (xs == ys)) m N) : WB g0 A E h₀ L m N (compareOp .Eq (.ref a) (.ref b)) Q := by
  obtain ⟨n1, rfl⟩ := hao
  obtain ⟨n2, rfl⟩ := hbo
  exact WB.stillR (a := .bool (xs == ys)) (fun s Q' E' at_ q => eq_dataH (reads_list_at (at_ _ _ ha) rfl rfl (readsAll_ints _ hx)) (reads_list_at (at_ _ _ hb) rfl rfl (readsAll_ints _ hy)) (shaped_ints xs) (shaped_ints ys) (by have := Ro.units; show A.units + 64 < 9900; omega)
    (by rw [eqv_list, eqv_ints]; exact q s.toks)) h
theorem intsAre_ints {vs : List Value} {xs : List Int} (h : IntsAre vs xs) : Ints vs xs := by
  induction h with
  | nil => exact Ints.nil
  | cons n t h ih => exact ih.cons
theorem c_sortI {l : Addr} {lo : Obj} {vs : List Value} {xs : List Int} {Q : Value → Loc → Led → Prop} (hl : At h₀ N l lo) (ho : LO lo vs) (hI : Ints vs xs) (h64 : vs.length < 64)
    (h : ∀ r ro ws ys, Fresh h₀ L N r → LX ro ws → Ints ws ys → ys.Perm xs → ys.Pairwise (· ≤ ·) → Q (.ref r) m ((r, ro) :: N)) : WB g0 A E h₀ L m N (call (.builtin "sorted") [.ref l]) Q := by
  refine WB.allocG (R := fun o => ∃ ws ys, LX o ws ∧ Ints ws ys ∧ ys.Perm xs ∧ ys.Pairwise (· ≤ ·)) (fun s Q' E' at_ q => ?_) fun a o ⟨ws, ys, h1, h2, h3, h4⟩ f => h a o ws ys f h1 h2 h3 h4
  refine sorted_ints (ho.isList (at_ _ _ hl)) (ints_are hI) h64 fun out ns' a1 a2 a3 => ?_
  obtain ⟨e, he⟩ := sortedAll_at s.heap vs out
  exact q _ _ _ s.toks ⟨out.toList, ns', ⟨e, by simp [seqObj]⟩, intsAre_ints a1, a2, a3⟩ he (Nat.le_succ _) (fun b o eb => sortedAll_old eb)
theorem e_and2 {a b : Expr} {pos : Pos} {Q : Value → Loc → Led → Prop}
    (h : WB g0 A E h₀ L m N (eval a env) fun v m1 N1 => WB g0 A E h₀ L m1 N1 (truthy v) fun t m2 N2 => if t then WB g0 A E h₀ L m2 N2 (eval b env) Q else Q v m2 N2) :
    WB g0 A E h₀ L m N (eval (.BoolOp .And [a, b] pos) env) Q := by
  show WB _ _ _ _ _ _ _ (eval a env >>= fun v => PySem.standAt pos >>= fun _ => PySem.holding [v] (truthy v) >>= fun t => _) _
  refine WB.bind (h.mono fun v m1 N1 q => WB.at_ (WB.bind (WB.holding (q.mono fun t m2 N2 q => ?_))))
  cases t with
  | true => exact q
  | false => exact WB.pure q
theorem WB.release {vs ws : List Value} {Q : Unit → Loc → Led → Prop} (h : Q () m N) : WB g0 A E h₀ L m N (release vs ws) Q :=
  ⟨fun s I => wpAny_release ⟨m, N, I, .refl .., h⟩⟩
theorem e_cmp2 {a b c : Expr} {o1 o2 : CmpOp} {pos : Pos} {Q : Value → Loc → Led → Prop}
    (h : WB g0 A E h₀ L m N (eval a env) fun v1 m1 N1 => WB g0 A E h₀ L m1 N1 (eval b env) fun v2 m2 N2 => WB g0 A E h₀ L m2 N2 (compareOp o1 v1 v2) fun c1 m3 N3 => WB g0 A E h₀ L m3 N3 (truthy c1) fun t m4 N4 =>
      if t then WB g0 A E h₀ L m4 N4 (eval c env) fun v3 m5 N5 => WB g0 A E h₀ L m5 N5 (compareOp o2 v2 v3) Q else Q c1 m4 N4)
    (hm2 : behindInMarks o2 c = false := by with_unfolding_all rfl) :
    WB g0 A E h₀ L m N (eval (.Compare a [o1, o2] [b, c] pos) env) Q := by
  show WB _ _ _ _ _ _ _ (eval a env >>= fun v1 => PySem.holding [v1] (eval b env) >>= fun v2 => PySem.standAt pos >>= fun _ => PySem.holding [v1, v2] (compareOp o1 v1 v2) >>= fun c1 => PySem.release [v1, v2] [c1] >>= fun _ => PySem.holding [c1, v2] (truthy c1) >>= fun t => if t = true then (PySem.holding [v2] (markedBehindIn o2 c (eval c env)) >>= fun v3 => PySem.standAt pos >>= fun _ => PySem.operate [v2, v3] (compareOp o2 v2 v3)) else pure c1) _
  rw [markedBehindIn_of_false hm2]
  refine WB.bind (h.mono fun v1 m1 N1 q => WB.bind (WB.holding (q.mono fun v2 m2 N2 q => WB.at_ (WB.bind (WB.holding (q.mono fun c1 m3 N3 q => WB.bind (WB.release (WB.bind (WB.holding (q.mono fun t m4 N4 q => ?_))))))))))
  cases t with
  | true =>
    rw [if_pos rfl] at q ⊢
    exact WB.bind (WB.holding (q.mono fun v3 m5 N5 q => WB.at_ (WB.operate q)))
  | false =>
    rw [if_neg (by decide)] at q ⊢
    exact WB.pure q
theorem is_none {v : Value} {Q : Value → Loc → Led → Prop} (h : Q (.bool (v == .none)) m N) : WB g0 A E h₀ L m N (compareOp .Is v .none) Q :=
  ⟨fun s I => by
    show wpAny (model g0.prog g0.w) A (do return Value.bool (← isSame v .none)) _ E s
    rw [isSame_none]
    exact wpAny_bind (wpAny_pure (wpAny_pure ⟨m, N, I, .refl .., h⟩))⟩
end
end Mine

end

section
open PySem PySem.W PyProof.Rows
namespace Mine
theorem ks_law : (scopeOf 31).kind = .function := by rfl
theorem k_law_script : (scopeOf 31).names.lookup (Str.ofString "script") = some .local := by rfl
theorem k_law_size : (scopeOf 31).names.lookup (Str.ofString "size") = some .local := by rfl
theorem k_law_total : (scopeOf 31).names.lookup (Str.ofString "total") = some .local := by rfl
theorem k_law_width : (scopeOf 31).names.lookup (Str.ofString "width") = some .local := by rfl
theorem k_law_far : (scopeOf 31).names.lookup (Str.ofString "far") = some .local := by rfl
theorem k_law_near : (scopeOf 31).names.lookup (Str.ofString "near") = some .local := by rfl
theorem k_law_mark : (scopeOf 31).names.lookup (Str.ofString "mark") = some .local := by rfl
theorem k_law_dots : (scopeOf 31).names.lookup (Str.ofString "dots") = some .local := by rfl
theorem k_law_pairs : (scopeOf 31).names.lookup (Str.ofString "pairs") = some .local := by rfl
theorem k_law_powers : (scopeOf 31).names.lookup (Str.ofString "powers") = some .local := by rfl
theorem k_law_half : (scopeOf 31).names.lookup (Str.ofString "half") = some .cell := by rfl
theorem k_law_count : (scopeOf 31).names.lookup (Str.ofString "count") = some .local := by rfl
theorem k_law_products : (scopeOf 31).names.lookup (Str.ofString "products") = some .local := by rfl
theorem k_law_number : (scopeOf 31).names.lookup (Str.ofString "number") = some .local := by rfl
theorem k_law_came : (scopeOf 31).names.lookup (Str.ofString "came") = some .local := by rfl
theorem k_law_sign : (scopeOf 31).names.lookup (Str.ofString "sign") = some .local := by rfl
theorem k_law_divisor : (scopeOf 31).names.lookup (Str.ofString "divisor") = some .local := by rfl
theorem k_law_again : (scopeOf 31).names.lookup (Str.ofString "again") = some .local := by rfl
theorem k_law_quotient : (scopeOf 31).names.lookup (Str.ofString "quotient") = some .local := by rfl
theorem k_law_rest : (scopeOf 31).names.lookup (Str.ofString "rest") = some .local := by rfl
theorem k_law_fine : (scopeOf 31).names.lookup (Str.ofString "fine") = some .local := by rfl
theorem k_law_len : (scopeOf 31).names.lookup (Str.ofString "len") = some .globalImplicit := by rfl
theorem k_law_sum : (scopeOf 31).names.lookup (Str.ofString "sum") = some .globalImplicit := by rfl
theorem k_law_chr : (scopeOf 31).names.lookup (Str.ofString "chr") = some .globalImplicit := by rfl
theorem k_law__law_dots : (scopeOf 31).names.lookup (Str.ofString "_law_dots") = some .globalImplicit := by rfl
theorem k_law__law_pairs : (scopeOf 31).names.lookup (Str.ofString "_law_pairs") = some .globalImplicit := by rfl
theorem k_law_countOf : (scopeOf 31).names.lookup (Str.ofString "countOf") = some .globalImplicit := by rfl
theorem k_law__law_hard : (scopeOf 31).names.lookup (Str.ofString "_law_hard") = some .globalImplicit := by rfl
theorem k_law__law_powers : (scopeOf 31).names.lookup (Str.ofString "_law_powers") = some .globalImplicit := by rfl
theorem k_law_ZeroDivisionError : (scopeOf 31).names.lookup (Str.ofString "ZeroDivisionError") = some .globalImplicit := by rfl
theorem k_law__law_products : (scopeOf 31).names.lookup (Str.ofString "_law_products") = some .globalImplicit := by rfl
theorem k_law__digits2int : (scopeOf 31).names.lookup (Str.ofString "_digits2int") = some .globalImplicit := by rfl
theorem k_law_range : (scopeOf 31).names.lookup (Str.ofString "range") = some .globalImplicit := by rfl
theorem k_law_add : (scopeOf 31).names.lookup (Str.ofString "add") = some .globalImplicit := by rfl
theorem k_law_neg : (scopeOf 31).names.lookup (Str.ofString "neg") = some .globalImplicit := by rfl
theorem k_law_int_divmod : (scopeOf 31).names.lookup (Str.ofString "int_divmod") = some .globalImplicit := by rfl
theorem k_law_mul : (scopeOf 31).names.lookup (Str.ofString "mul") = some .globalImplicit := by rfl
theorem k_law_sorted : (scopeOf 31).names.lookup (Str.ofString "sorted") = some .globalImplicit := by rfl
end Mine

end

section
open PySem PySem.W PyProof.Rows
namespace Mine
open PySem.Spec
open Builtin.Int (intBits)
theorem four_get (u1 u2 u3 u4 : Tok) : ∀ {i : Nat}, i < 4 → ∃ (c : Nat) (tc : Tok), ([Value.int 5 u1, .int 3 u2, .int 4 u3, .int 6 u4] : List Value)[i]? = some (.int c tc) ∧ 3 ≤ c ∧ c ≤ 6
  | 0, _ => ⟨5, _, rfl, by decide, by decide⟩
  | 1, _ => ⟨3, _, rfl, by decide, by decide⟩
  | 2, _ => ⟨4, _, rfl, by decide, by decide⟩
  | 3, _ => ⟨6, _, rfl, by decide, by decide⟩
  | i + 4, h => by omega
structure LawS (h₀ : Heap) (n wd : Nat) (tot near : Int) (mk : Nat) (ds : List Int) (ps : List (List Nat × Tok)) (dl pl lc : Addr) (m : Loc) (N : Led) : Prop where
  size : ∃ t, m (Str.ofString "size") = some (.int n t)
  total : ∃ t, m (Str.ofString "total") = some (.int tot t)
  width : ∃ t, m (Str.ofString "width") = some (.int wd t)
  far : ∃ t, m (Str.ofString "far") = some (.int (2 ^ wd - 1) t)
  near : ∃ t, m (Str.ofString "near") = some (.int near t)
  mark : ∃ t, m (Str.ofString "mark") = some (mkS [mk] t)
  dots : m (Str.ofString "dots") = some (.ref dl)
  pairs : m (Str.ofString "pairs") = some (.ref pl)
  dat : ∃ dob dvs, (dl, dob) ∈ N ∧ LX dob dvs ∧ Ints dvs ds
  pat : ∃ po, (pl, po) ∈ N ∧ LX po (txV ps)
  cell : ∃ oc, (lc, oc) ∈ N ∧ oc.data = .cell none
structure LawP (n wd : Nat) (near : Int) (mk : Nat) (ds : List Int) (ps : List (List Nat × Tok)) : Prop where
  n3 : 3 ≤ n
  n6 : n ≤ 6
  dok : DotsOk n ds
  w24 : 24 ≤ wd
  w44 : wd ≤ 4423
  near0 : 0 ≤ near
  nearf : near < 2 ^ wd - 1
  mkk : mk < 55296 ∧ mk ≠ 46 ∧ mk ≠ 10 ∧ mk ≠ 13
  perm : (ps.map (·.1)).Perm ((pairSums ds).map fun v => rowT mk v.toNat)
  sorted : ps.Pairwise (fun a b => ltCps b.1 a.1 = false)
  cons : ∃ F, Cons ps F
namespace hDotsOk_bd
noncomputable def st_ (n : Nat) : Prop := ∀ {ds : List Int} (h : DotsOk n ds), ∀ d ∈ ds, 1 ≤ d ∧ d ≤ 7
noncomputable abbrev T_ := Nat
theorem ne_ : Nonempty T_ := ⟨by repeat' (first | apply Prod.mk | exact default | exact nAr | exact nCx | exact nSh | constructor)⟩
noncomputable def Q_ (p : T_) : Prop := st_ p
noncomputable def w_ : T_ := @Classical.epsilon _ ne_ fun p => ¬ Q_ p
noncomputable def n := w_
theorem main_ : st_ n := by
  intro ds h
  intro d hd
  by_cases h4 : n = 4
  · refine exE3 (h.2.2 h4) fun a b c h_0 => anE4 h_0 fun e_1 ha hb hc => ?_
    clear h_0
    subst e_1
    simp only [List.mem_cons, List.not_mem_nil, or_false] at hd
    omega
  · have := h.2.1 h4 d hd; omega
end hDotsOk_bd
theorem DotsOk.bd {n} : hDotsOk_bd.st_ n := Mine.hk hDotsOk_bd.ne_ (P := hDotsOk_bd.Q_) hDotsOk_bd.main_ n
theorem pairSums_len (ds : List Int) (h : 3 ≤ ds.length) : 3 ≤ (pairSums ds).length := by
  match ds, h with
  | a :: b :: c :: r, _ => simp [pairSums]; omega
section
variable {prog : Program} {w : World} {g0 : Cx} {mg mb : Loc} {A : Around} {E : Value → Shared → Prop} {s : Shared} {h₀ : Heap} {L : Addr} {m : Loc} {N : Led}
end
namespace hlaw_head
noncomputable def st_ (g0 : Mine.Cx) (mg mb : Mine.Loc) (A : PySem.Around) (h₀ : PySem.Heap) (L : PySem.Addr) (m : Mine.Loc) (N : Mine.Led) (cn : PySem.Str) (a0 : PySem.Addr) (ccd : PySem.Value) (sl lc : PySem.Addr) (so oc : PySem.Obj) (svs : List PySem.Value) (ss : List Int) (Q : PySem.Flow → Mine.Loc → Mine.Led → Prop) : Prop := ∀ (G : Gd mg mb h₀) (Rd : Room A 40) (hsl : h₀.get? sl = some so) (hso : LO so svs) (hS : Ints svs ss) (hsn : svs.length ≤ 63) (ms : m (Str.ofString "script") = some (.ref sl)) (hc : (lc, oc) ∈ N) (hoc : oc.data = .cell none) (h : ∀ n wd tot near mk ds ps dl pl m' N', LawP n wd near mk ds ps → LawS h₀ n wd tot near mk ds ps dl pl lc m' N' → WB g0 A (fun _ _ => False) h₀ L m' N' (execs ((bodyOf 31).drop 10) (envX cn (scopeOf 31) L a0 ccd [(Str.ofString "half", lc)])) Q), WB g0 A (fun _ _ => False) h₀ L m N (execs (bodyOf 31) (envX cn (scopeOf 31) L a0 ccd [(Str.ofString "half", lc)])) Q
noncomputable abbrev T_ := ((((Mine.Cx × Mine.Loc) × (Mine.Loc × PySem.Around)) × ((PySem.Heap × PySem.Addr) × (Mine.Loc × (Mine.Led × PySem.Str)))) × (((PySem.Addr × PySem.Value) × (PySem.Addr × PySem.Addr)) × ((PySem.Obj × PySem.Obj) × ((List PySem.Value) × ((List Int) × (PySem.Flow → Mine.Loc → Mine.Led → Prop))))))
theorem ne_ : Nonempty T_ := ⟨by repeat' (first | apply Prod.mk | exact default | exact nAr | exact nCx | exact nSh | constructor)⟩
noncomputable def Q_ (p : T_) : Prop := st_ p.1.1.1.1 p.1.1.1.2 p.1.1.2.1 p.1.1.2.2 p.1.2.1.1 p.1.2.1.2 p.1.2.2.1 p.1.2.2.2.1 p.1.2.2.2.2 p.2.1.1.1 p.2.1.1.2 p.2.1.2.1 p.2.1.2.2 p.2.2.1.1 p.2.2.1.2 p.2.2.2.1 p.2.2.2.2.1 p.2.2.2.2.2
noncomputable def w_ : T_ := @Classical.epsilon _ ne_ fun p => ¬ Q_ p
noncomputable def m := w_.1.2.2.1
noncomputable def N := w_.1.2.2.2.1
noncomputable def sl := w_.2.1.2.1
noncomputable def oc := w_.2.2.1.2
noncomputable def svs := w_.2.2.2.1
noncomputable def ss := w_.2.2.2.2.1
set_option maxHeartbeats 2000000 in
theorem main_ : st_ w_.1.1.1.1 w_.1.1.1.2 w_.1.1.2.1 w_.1.1.2.2 w_.1.2.1.1 w_.1.2.1.2 m N w_.1.2.2.2.2 w_.2.1.1.1 w_.2.1.1.2 sl w_.2.1.2.2 w_.2.2.1.1 oc svs ss w_.2.2.2.2.2 := by
  intro G Rd hsl hso hS hsn ms hc hoc h
  show WB _ _ _ _ _ _ _ (execs (_ :: _ :: _ :: _ :: _ :: _ :: _ :: _ :: _ :: _ :: (bodyOf 31).drop 10) _) _
  refine ex_assignL ks_law k_law_size ?_
  refine e_subL ?_
  refine e_list rfl ?_
  refine args_cons (e_int fun u1 => args_cons (e_int fun u2 => args_cons (e_int fun u3 => args_cons (e_int fun u4 => args_nil ?_))))
  refine ⟨by simp, fun cl fcl => ?_⟩
  refine e_bin ?_
  refine e_callb G ks_law k_law_len (id := "len") (by decide) rfl ?_
  refine args_cons (e_local ks_law k_law_script ms ?_)
  refine args_nil ?_
  refine c_lenL (.inl hsl) hso (by omega) fun tl => ?_
  refine e_int fun _ => ?_
  refine i_mod (by decide) fun tk => ?_
  rw [fmod_pos (by decide)]
  have m0 := Int.emod_nonneg (svs.length : Int) (show (4 : Int) ≠ 0 by decide)
  have m1 := Int.emod_lt_of_pos (svs.length : Int) (show (0 : Int) < 4 by decide)
  refine exE2 (four_get u1 u2 u3 u4 (i := ((svs.length : Int) % 4).toNat) (by omega)) fun n tc h_0 => anE3 h_0 fun hcn hn3 hn6 => ?_
  clear h_0
  refine subI cl _ _ _ tk _ (.inr (.head _)) ((LP.of _ 0).lo) m0 (by omega) hcn ?_
  refine ex_assignL ks_law k_law_total ?_
  refine e_callb G ks_law k_law_sum (id := "sum") (by decide) rfl ?_
  refine args_cons (e_local ks_law k_law_script (v := .ref sl) (by kwd_inv) ?_)
  refine args_nil ?_
  refine c_sum Rd.handled (.inl hsl) hso hS fun tt => ?_
  generalize ss.sum = tot
  refine ex_assignL ks_law k_law_width ?_
  refine e_bin (e_int fun _ => ?_)
  refine e_bin ?_
  refine e_local ks_law k_law_total (v := .int tot tt) (by kwd_inv) ?_
  refine e_int fun _ => ?_
  refine i_mod (by decide) fun _ => ?_
  refine i_add fun tw => ?_
  rw [fmod_pos (by decide)]
  have w0 := Int.emod_nonneg tot (show (4400 : Int) ≠ 0 by decide)
  have w1 := Int.emod_lt_of_pos tot (show (0 : Int) < 4400 by decide)
  refine via fun ξ κ=>?_
  obtain ⟨wd, hwd⟩ : ∃ wd : Nat, (24 + tot % 4400) = (wd : Int) := ⟨(24 + tot % 4400).toNat, by omega⟩
  refine κ ?_;clear κ ξ
  rw [hwd]
  refine ex_assignL ks_law k_law_far ?_
  refine e_bin ?_
  refine e_bin (e_int fun _ => ?_)
  refine e_local ks_law k_law_width (v := .int wd tw) (by kwd_inv) ?_
  refine i_shl (by omega) (by rw [bits1, p27]; omega) fun _ => ?_
  refine e_int fun _ => ?_
  refine i_sub fun tf => ?_
  rw [Int.one_mul, Int.toNat_natCast]
  have hp24 : (2 : Int) ^ 24 ≤ 2 ^ wd := by exact_mod_cast Nat.pow_le_pow_right (by decide) (show 24 ≤ wd by omega)
  have e24 : (2 : Int) ^ 24 = 16777216 := by decide
  refine ex_assignL ks_law k_law_near ?_
  refine e_bin ?_
  refine e_local ks_law k_law_total (v := .int tot tt) (by kwd_inv) ?_
  refine e_local ks_law k_law_far (v := .int (2 ^ wd - 1) tf) (by kwd_inv) ?_
  refine i_mod (by omega) fun tn => ?_
  rw [fmod_pos (by omega)]
  have r0 := Int.emod_nonneg tot (show (2 : Int) ^ wd - 1 ≠ 0 by omega)
  have r1 := Int.emod_lt_of_pos tot (show (0 : Int) < 2 ^ wd - 1 by omega)
  generalize tot % (2 ^ wd - 1) = near at *
  refine ex_assignL ks_law k_law_mark ?_
  refine e_callb G ks_law k_law_chr (id := "chr") (by decide) rfl ?_
  refine args_cons ?_
  refine e_bin ?_
  refine e_bin (e_int fun _ => ?_)
  refine e_local ks_law k_law_total (v := .int tot tt) (by kwd_inv) ?_
  refine i_add fun _ => ?_
  refine e_int fun _ => ?_
  refine i_mod (by decide) fun _ => ?_
  rw [fmod_pos (by decide)]
  have k0 := Int.emod_nonneg (97 + tot) (show (55296 : Int) ≠ 0 by decide)
  have k1 := Int.emod_lt_of_pos (97 + tot) (show (0 : Int) < 55296 by decide)
  refine args_nil ?_
  refine c_chr k0 k1 fun tm => ?_
  refine via fun ξ κ=>?_
  obtain ⟨mk0, hmk0⟩ : ∃ mk0 : Nat, ((97 + tot) % 55296).toNat = mk0 := ⟨_, rfl⟩
  refine κ ?_;clear κ ξ
  rw [hmk0]
  have hmk0' : mk0 < 55296 := by omega
  generalize hm1 : upd (upd (upd (upd (upd (upd m (Str.ofString "size") (.int n tc)) (Str.ofString "total") (.int tot tt)) (Str.ofString "width") (.int wd tw)) (Str.ofString "far") (.int (2 ^ wd - 1) tf)) (Str.ofString "near") (.int near tn)) (Str.ofString "mark") (mkS [mk0] tm) = m6
  have a1 : m6 (Str.ofString "size") = some (.int n tc) := by rw [← hm1]; kwd_inv
  have a2 : m6 (Str.ofString "total") = some (.int tot tt) := by rw [← hm1]; kwd_inv
  have a3 : m6 (Str.ofString "width") = some (.int wd tw) := by rw [← hm1]; kwd_inv
  have a4 : m6 (Str.ofString "far") = some (.int (2 ^ wd - 1) tf) := by rw [← hm1]; kwd_inv
  have a5 : m6 (Str.ofString "near") = some (.int near tn) := by rw [← hm1]; kwd_inv
  have a6 : m6 (Str.ofString "mark") = some (mkS [mk0] tm) := by rw [← hm1]; kwd_inv
  have a7 : m6 (Str.ofString "script") = some (.ref sl) := by rw [← hm1]; kwd_inv
  clear hm1
  refine ex_ifJ (fun m' N' => SameBut ["mark"] m6 m' ∧ (∀ p ∈ N, p ∈ N') ∧ ∃ mk t, m' (Str.ofString "mark") = some (mkS [mk] t) ∧ mk < 55296 ∧ mk ≠ 46 ∧ mk ≠ 10 ∧ mk ≠ 13) ?_ ?_
  · refine t_cmp ?_
    refine e_local ks_law k_law_mark a6 ?_
    refine e_strS [46, 13, 10] rfl fun _ => ?_
    refine s_inMark fun b hb => truthy_b ?_
    cases b with
    | true =>
      show WB _ _ _ _ _ _ _ (execs (_ :: []) _) _
      refine ex_assignL ks_law k_law_mark (e_strS [98] rfl fun t => ?_)
      exact ex_nil ⟨rfl, (SameBut.refl _ _).upd (by decide), fun p hp => by simp [hp], exI2 98 t ⟨by kwd_inv, by decide, by decide, by decide, by decide⟩⟩
    | false =>
      have := hb rfl
      exact ex_nil ⟨rfl, .refl _ _, fun p hp => by simp [hp], exI2 mk0 tm ⟨a6, hmk0', this.1, this.2.2, this.2.1⟩⟩
  intro m7 N7 e_2
  refine anE3 e_2 fun hs7 hN7 h_0 => exE2 h_0 fun mk tm7 h_1 => anE2 h_1 fun b6 hmk => ?_
  clear h_0 h_1 e_2
  have g7 : ∀ x : String, x ∉ ["mark"] → ∀ v, m6 (Str.ofString x) = some v → m7 (Str.ofString x) = some v := fun x hx v hv => (hs7 x hx).trans hv
  refine ex_assignL ks_law k_law_dots ?_
  refine e_callf G ks_law k_law__law_dots (f := 162) (i := 26) (by decide) rfl ?_
  refine args_cons (e_local ks_law k_law_script (g7 "script" (by decide) _ a7) ?_)
  refine args_cons (e_local ks_law k_law_size (g7 "size" (by decide) _ a1) ?_)
  refine args_nil ?_
  refine WB.callS G (fun s' O' at' => f_dots (n := n) O' (Rd.le (by omega)) (at' _ _ (.inl hsl)) hso hS (by omega) hn3 hn6) fun v new hv _ => ?_
  refine exE4 hv fun dl dob dvs ds h_0 => anE5 h_0 fun e_3 hdm hdX hdI hdok => ?_
  clear h_0 hv
  subst e_3
  have hdl := hdok.1
  have hdn := hdI.length
  refine ex_assignL ks_law k_law_pairs ?_
  refine e_callf G ks_law k_law__law_pairs (f := 167) (i := 27) (by decide) rfl ?_
  refine args_cons (e_local ks_law k_law_dots (v := .ref dl) (by kwd_inv) ?_)
  refine args_cons (e_local ks_law k_law_mark (v := mkS [mk] tm7) (by kwd_inv) ?_)
  have a2' := g7 "total" (by decide) _ a2
  refine args_cons (e_local ks_law k_law_total (v := .int tot tt) (by kwd_inv) ?_)
  refine args_nil ?_
  refine WB.callS G (fun s' O' at' => f_pairs O' (Rd.le (by omega)) (at' _ _ (.inr (List.mem_append_left _ hdm))) hdX.lo hdI hdok.bd (by omega) (by omega) hmk) fun v new2 hv _ => ?_
  refine exE4 hv fun pl po ps F h_0 => anE6 h_0 fun e_4 hpm hpX hperm hpw hC => ?_
  clear h_0 hv
  subst e_4
  have hpsl : 3 ≤ ps.length := by
    have h1 := hperm.length_eq
    rw [List.length_map, List.length_map] at h1
    have := pairSums_len ds (by omega)
    omega
  have hpsl2 : ps ≠ [] := fun e => by rw [e] at hpsl; simp at hpsl
  generalize hm9 : upd (upd m7 (Str.ofString "dots") (.ref dl)) (Str.ofString "pairs") (.ref pl) = m9
  have b1 : m9 (Str.ofString "size") = some (.int n tc) := by have := g7 "size" (by decide) _ a1; rw [← hm9]; kwd_inv
  have b2 : m9 (Str.ofString "total") = some (.int tot tt) := by rw [← hm9]; kwd_inv
  have b3 : m9 (Str.ofString "width") = some (.int wd tw) := by have := g7 "width" (by decide) _ a3; rw [← hm9]; kwd_inv
  have b4 : m9 (Str.ofString "far") = some (.int (2 ^ wd - 1) tf) := by have := g7 "far" (by decide) _ a4; rw [← hm9]; kwd_inv
  have b5 : m9 (Str.ofString "near") = some (.int near tn) := by have := g7 "near" (by decide) _ a5; rw [← hm9]; kwd_inv
  have b6' : m9 (Str.ofString "mark") = some (mkS [mk] tm7) := by rw [← hm9]; kwd_inv
  have b7 : m9 (Str.ofString "dots") = some (.ref dl) := by rw [← hm9]; kwd_inv
  have b8 : m9 (Str.ofString "pairs") = some (.ref pl) := by rw [← hm9]; kwd_inv
  clear hm9
  have lastq : ps[ps.length - 1]? = some (ps.getLast hpsl2) := by rw [List.getLast_eq_getElem]; exact List.getElem?_eq_getElem _
  have lastm : ps.getLast hpsl2 ∈ ps := List.getLast_mem _
  generalize ps.getLast hpsl2 = pq at lastq lastm
  have lastv : (txV ps)[(txV ps).length - 1]? = some (mkS pq.1 pq.2) := by simp [lastq]
  have hps11 : ∀ q ∈ ps, ∀ c ∈ q.1, c < 0x110000 := fun q hq c hc => by
    have h1 : q.1 ∈ ps.map (·.1) := List.mem_map_of_mem hq
    have h2 := hperm.mem_iff.mp h1
    refine exE1 (List.mem_map.mp h2) fun v h_0 => anE2 h_0 fun _ e => ?_
    clear h_0
    rw [← e] at hc
    have := rowT_mem hc; omega
  refine ex_if ?_
  refine t_or (t_or_cons ?_)
  refine t_cmp ?_
  refine e_local ks_law k_law_pairs b8 ?_
  refine e_list rfl (args_nil ⟨by simp, fun z0 fz0 => ?_⟩)
  refine ll_eq (ps := ps) (qs := []) (Rd.le (by omega)) (.inr (.tail _ (List.mem_append_left _ hpm))) hpX (.inr (.head _)) ⟨0, rfl⟩ hps11 (fun q hq => nomatch hq) (truthy_b ?_)
  refine (Eq.symm (show (ps.map (·.1) == ([] : List (List Nat × Tok)).map (·.1)) = false by simpa using hpsl2)) ▸ ?_
  dsimp only
  refine t_or_cons ?_
  refine t_cmp ?_
  refine e_callf G ks_law k_law_countOf (f := 114) (i := 15) (by decide) rfl ?_
  refine args_cons (e_local ks_law k_law_pairs b8 ?_)
  refine args_cons ?_
  refine e_subLast ?_
  refine e_local ks_law k_law_pairs b8 ?_
  refine e_un (e_int fun _ => i_neg fun _ => ?_)
  refine exI5 pl po _ _ _ ⟨rfl, .inr (.tail _ (List.mem_append_left _ hpm)), hpX.lo, rfl, lastv, ?_⟩
  refine args_nil ?_
  have hCq := hC pq lastm
  refine WB.callK G (fun s' O' at' => f_count (u := pq.2) O' (Rd.le (by omega)) [(pl, po)] (fun q : List Nat × Tok => toStr q.1) (fun q v => v = mkS q.1 q.2 ∧ q ∈ ps) ps 0 hCq.1 (Nat.zero_le _)
    (fun p hp => by rw [List.mem_singleton.mp hp]; exact ⟨at' _ _ (.inr (.tail _ (List.mem_append_left _ hpm))), by obtain ⟨k, rfl⟩ := hpX; simp [lstObj]⟩)
    (fun A' h1 L1 m1 N1 Q1 hh hat hq => it_list (T := 0) hh (hat (pl, po) (.head _)) hpX.lo fun I o _ hY => hq I o (hY.mono (by simp) fun i P P' e1 e2 v hv => by
      rw [List.getElem?_map] at e1 e2
      rw [List.getElem?_map] at e1
      cases hp : ps[i]? with
      | none => rw [hp] at e2; cases e2
      | some p =>
        rw [hp] at e1 e2
        simp only [Option.map_some, Option.some.injEq] at e1 e2
        rw [← e1] at hv; rw [← e2]; exact ⟨hv, List.mem_of_getElem? hp⟩))
    (fun q v hv => ⟨q.2, hv.1, (hC q hv.2).1, fun e => by rw [(hC q hv.2).2.2 pq lastm e]⟩)) fun tcnt new3 => ?_
  refine e_meth attrBase_name rfl rfl ?_
  refine e_local ks_law k_law_pairs b8 ?_
  intro pl1
  have hpm' : (pl, po) ∈ new3 ++ (z0, lstObj []) :: (new2 ++ (new ++ N7)) := by simp [hpm]
  refine g_lst PySem.F.slot_list_count PySem.F.type_list_count (.inr hpm') hpX ?_
  refine call_b1 rfl ?_
  refine args_cons ?_
  refine e_subLast ?_
  refine e_local ks_law k_law_pairs b8 ?_
  refine e_un (e_int fun _ => i_neg fun _ => ?_)
  refine ⟨pl, po, _, _, _, rfl, .inr hpm', hpX.lo, rfl, lastv, ?_⟩
  refine args_nil ?_
  refine c_countS (.inr hpm') hpX.lo fun tc2 => ?_
  refine i_ne (truthy_b ?_)
  rw [bne_self_eq_false]
  dsimp only
  refine t_or_one (t_not ?_)
  refine t_call ?_
  refine e_callf G ks_law k_law__law_hard (f := 188) (i := 30) (by decide) rfl ?_
  refine args_cons (e_local ks_law k_law_width b3 ?_)
  refine args_nil ?_
  refine WB.callS G (fun s' O' at' => f_hard (wd := wd) O' (Rd.le (by omega)) (by omega) (by omega)) fun v new4 hv _ => ?_
  subst hv
  refine truthy_b ?_
  show WB _ _ _ _ _ _ _ (execs ((bodyOf 31).drop 10) _) _
  refine h n wd tot near mk ds ps dl pl _ _ ⟨hn3, hn6, hdok, by omega, by omega, r0, r1, hmk, hperm, hpw, F, hC⟩ ⟨⟨_, b1⟩, ⟨_, b2⟩, ⟨_, b3⟩, ⟨_, b4⟩, ⟨_, b5⟩, ⟨_, b6'⟩, b7, b8, ⟨dob, dvs, by simp [hdm], hdX, hdI⟩, ⟨po, by simp [hpm], hpX⟩, ⟨oc, by simp [hN7 _ hc], hoc⟩⟩
end hlaw_head
theorem law_head {g0 mg mb A h₀ L m N cn a0 ccd sl lc so oc svs ss Q} : hlaw_head.st_ g0 mg mb A h₀ L m N cn a0 ccd sl lc so oc svs ss Q := Mine.hk hlaw_head.ne_ (P := hlaw_head.Q_) hlaw_head.main_ ((((g0, mg), (mb, A)), ((h₀, L), (m, (N, cn)))), (((a0, ccd), (sl, lc)), ((so, oc), (svs, (ss, Q)))))
section
variable {prog : Program} {w : World} {g0 : Cx} {mg mb : Loc} {A : Around} {E : Value → Shared → Prop} {s : Shared} {h₀ : Heap} {L : Addr} {m : Loc} {N : Led}
end
end Mine

end

section
open PySem PySem.W PyProof.Rows
namespace Mine
open PySem.Spec
open Builtin.Int (intBits)
noncomputable def cnt46 (l : List Nat) : Int := ((l.countP fun c => toStr [c] == toStr [46] : Nat) : Int)
theorem cnt46_row {mk n : Nat} (h : mk ≠ 46) : cnt46 (rowT mk n) = n := by
  unfold cnt46 rowT
  rw [List.countP_append]
  have e1 : ∀ c : Nat, (toStr [c] == toStr [46]) = (c == 46) := fun c => by
    rw [Bool.eq_iff_iff]
    simp only [beq_iff_eq]
    constructor
    · intro h
      have := congrArg (fun x : Str => x.cps.toList) h
      simpa using this
    · intro h; rw [h]
  have e2 : List.countP (fun c => toStr [c] == toStr [46]) (List.replicate n 46) = n := by
    rw [List.countP_eq_length.mpr]
    · simp
    · intro c hc; rw [List.eq_of_mem_replicate hc]; simp
  rw [e2]
  have e3 : List.countP (fun c => toStr [c] == toStr [46]) [mk] = 0 := by
    rw [List.countP_singleton, e1, show (mk == 46) = false by simpa using h]; rfl
  rw [e3]; simp
theorem pairSums_mem {x : Int} : ∀ {ds : List Int}, x ∈ pairSums ds → ∃ a ∈ ds, ∃ b ∈ ds, x = a + b
  | d :: ds, h => by
    rw [pairSums] at h
    rcases List.mem_append.mp h with h | h
    · refine via fun ξ κ=>?_
      obtain ⟨b, hb, e_1⟩ := List.mem_map.mp h
      refine κ ?_;clear κ ξ
      subst e_1
      exact ⟨d, .head _, b, .tail _ hb, rfl⟩
    · refine via fun ξ κ=>?_
      obtain ⟨a, ha, b, hb, e⟩ := pairSums_mem h
      refine κ ?_;clear κ ξ
      exact ⟨a, .tail _ ha, b, .tail _ hb, e⟩
theorem counts_perm {mk : Nat} {ds : List Int} {ps : List (List Nat × Tok)} (hmk : mk ≠ 46) (hds : ∀ d ∈ ds, 1 ≤ d ∧ d ≤ 7) (h : (ps.map (·.1)).Perm ((pairSums ds).map fun v => rowT mk v.toNat)) : (ps.map fun q => cnt46 q.1).Perm (pairSums ds) := by
  have h1 := h.map cnt46
  rw [List.map_map, List.map_map] at h1
  have e : (pairSums ds).map (cnt46 ∘ fun v => rowT mk v.toNat) = pairSums ds := by
    conv => rhs; rw [← List.map_id (pairSums ds)]
    refine List.map_congr_left fun v hv => ?_
    refine via fun ξ κ=>?_
    obtain ⟨a, ha, b, hb, e_2⟩ := pairSums_mem hv
    refine κ ?_;clear κ ξ
    subst e_2
    have := hds a ha
    have := hds b hb
    show cnt46 (rowT mk (a + b).toNat) = a + b
    rw [cnt46_row hmk]; omega
  rw [e] at h1
  exact h1
theorem PS_bd7 (k : Nat) (hk : k ≤ 6) : ∀ xs : List Int, (∀ x ∈ xs, 0 ≤ x ∧ x ≤ 7) → 0 ≤ PS xs k ∧ PS xs k ≤ 117649 * xs.length
  | [], _ => by simp [PS]
  | x :: xs, h => by
    have ih := PS_bd7 k hk xs fun y hy => h y (.tail _ hy)
    have hx := h x (.head _)
    have h1 : 0 ≤ x ^ k := Int.pow_nonneg hx.1
    have h2 : x ^ k ≤ 7 ^ k := by
      refine via fun ξ κ=>?_
      obtain ⟨n, e_3⟩ := Int.eq_ofNat_of_zero_le hx.1
      refine κ ?_;clear κ ξ
      subst e_3
      have : n ≤ 7 := by omega
      exact_mod_cast Nat.pow_le_pow_left this k
    have h3 : (7 : Int) ^ k ≤ 7 ^ 6 := by exact_mod_cast Nat.pow_le_pow_right (by decide) hk
    have e : (7 : Int) ^ 6 = 117649 := by decide
    rw [PS, List.length_cons]
    push_cast
    omega
theorem pairSums_len6 : ∀ ds : List Int, ds.length ≤ 6 → (pairSums ds).length ≤ 15
  | [], _ => by simp [pairSums]
  | [a], _ => by simp [pairSums]
  | [a, b], _ => by simp [pairSums]
  | [a, b, c], _ => by simp [pairSums]
  | [a, b, c, d], _ => by simp [pairSums]
  | [a, b, c, d, e], _ => by simp [pairSums]
  | [a, b, c, d, e, f], _ => by simp [pairSums]
  | a :: b :: c :: d :: e :: f :: g :: r, h => by simp at h
theorem same_sorted {ps qs : List (List Nat × Tok)} (hp : (ps.map (·.1)).Perm (qs.map (·.1))) (h1 : ps.Pairwise (fun a b => ltCps b.1 a.1 = false)) (h2 : qs.Pairwise (fun a b => ltCps b.1 a.1 = false)) : ps.map (·.1) = qs.map (·.1) := by
  refine List.Perm.eq_of_pairwise (le := fun a b => ltCps b a = false) (fun a b _ _ e1 e2 => ?_) (List.pairwise_map.mpr h1) (List.pairwise_map.mpr h2) hp
  rw [ltCps_eq] at e1 e2
  have n1 : ¬ b < a := by simpa using e1
  have n2 : ¬ a < b := by simpa using e2
  exact Std.le_antisymm (List.not_lt.mp n1) (List.not_lt.mp n2)
section
variable {prog : Program} {w : World} {g0 : Cx} {mg mb : Loc} {A : Around} {E : Value → Shared → Prop} {s : Shared} {h₀ : Heap} {L : Addr} {m : Loc} {N : Led}
noncomputable def tryBody : List Stmt := match (bodyOf 31).getD 10 (.Pass default) with | .Try b _ _ _ _ => b | _ => []
noncomputable def sumsComp : Expr := match tryBody with | [.Assign _ (.Call _ (e :: _) _ _) _] => e | _ => default
end
namespace hsums_comp
noncomputable def st_ (g0 : Mine.Cx) (mg mb : Mine.Loc) (A : PySem.Around) (E : PySem.Value → PySem.Shared → Prop) (h₀ : PySem.Heap) (L : PySem.Addr) (m : Mine.Loc) (N : Mine.Led) (cn : PySem.Str) (a0 : PySem.Addr) (ccd : PySem.Value) (cl : List (PySem.Str × PySem.Addr)) (ps : List (List Nat × PySem.Tok)) (pl : PySem.Addr) (po : PySem.Obj) (Q : PySem.Value → Mine.Loc → Mine.Led → Prop) : Prop := ∀ (G : Gd mg mb h₀) (Rd : Room A 3) (hp : At h₀ N pl po) (hpo : LX po (txV ps)) (hz : ps.length ≤ 1000) (hl : ∀ q ∈ ps, q.1.length ≤ 1000) (mp : m (Str.ofString "pairs") = some (.ref pl)) (h : ∀ D ys k T N', Ints ys (ps.map fun q => cnt46 q.1) → (∀ p ∈ N, p ∈ N') → Q (.ref D) (setF m T) ((D, lstObj ys k) :: N')), WB g0 A E h₀ L m N (eval sumsComp (envX cn (scopeOf 31) L a0 ccd cl)) Q
noncomputable abbrev T_ := ((((Mine.Cx × Mine.Loc) × (Mine.Loc × PySem.Around)) × (((PySem.Value → PySem.Shared → Prop) × PySem.Heap) × (PySem.Addr × Mine.Loc))) × (((Mine.Led × PySem.Str) × (PySem.Addr × PySem.Value)) × (((List (PySem.Str × PySem.Addr)) × (List (List Nat × PySem.Tok))) × (PySem.Addr × (PySem.Obj × (PySem.Value → Mine.Loc → Mine.Led → Prop))))))
theorem ne_ : Nonempty T_ := ⟨by repeat' (first | apply Prod.mk | exact default | exact nAr | exact nCx | exact nSh | constructor)⟩
noncomputable def Q_ (p : T_) : Prop := st_ p.1.1.1.1 p.1.1.1.2 p.1.1.2.1 p.1.1.2.2 p.1.2.1.1 p.1.2.1.2 p.1.2.2.1 p.1.2.2.2 p.2.1.1.1 p.2.1.1.2 p.2.1.2.1 p.2.1.2.2 p.2.2.1.1 p.2.2.1.2 p.2.2.2.1 p.2.2.2.2.1 p.2.2.2.2.2
noncomputable def w_ : T_ := @Classical.epsilon _ ne_ fun p => ¬ Q_ p
noncomputable def cl := w_.2.2.1.1
noncomputable def ps := w_.2.2.1.2
noncomputable def pl := w_.2.2.2.1
noncomputable def po := w_.2.2.2.2.1
set_option maxHeartbeats 1000000 in
theorem main_ : st_ w_.1.1.1.1 w_.1.1.1.2 w_.1.1.2.1 w_.1.1.2.2 w_.1.2.1.1 w_.1.2.1.2 w_.1.2.2.1 w_.1.2.2.2 w_.2.1.1.1 w_.2.1.1.2 w_.2.1.2.1 w_.2.1.2.2 cl ps pl po w_.2.2.2.2.2 := by
  intro G Rd hp hpo hz hl mp h
  show WB _ _ _ _ _ _ _ (eval (.ListComp _ [⟨.Name _ _, _, [], 0⟩] _ _) _) _
  refine WB.exc ?_
  refine e_comp (cl := []) (fun (q : List Nat × Tok) v => v = mkS q.1 q.2 ∧ q ∈ ps) ps
    (fun r ys T => ∃ done, done ++ r = ps ∧ Ints ys (done.map fun q => cnt46 q.1)) (by rfl) (by rfl) (by decide) (by rfl) (by rfl) (by decide) (by omega) rfl G ?_
  refine e_local ks_law k_law_pairs mp ?_
  refine it_listS Rd.handled hp hpo.lo fun I o fI hY hself => ?_
  refine ⟨I, o, _, [(pl, po)], rfl, rfl, ?_, hself, fun p h => by rw [List.mem_singleton.mp h]; exact hp, ⟨[], rfl, Ints.nil⟩, ?_, ?_⟩
  · refine hY.mono (by simp) fun i P P' h1 h2 v hv => ?_
    rw [List.getElem?_map] at h1 h2
    rw [List.getElem?_map] at h1
    cases hq : ps[i]? with
    | none => rw [hq] at h2; cases h2
    | some q =>
      rw [hq] at h1 h2
      simp only [Option.map_some, Option.some.injEq] at h1 h2
      rw [← h1] at hv; rw [← h2]; exact ⟨hv, List.mem_of_getElem? hq⟩
  · intro q r ys T v h₀c Cc mC e_4 e_5 Gc atc hmx hfl
    refine via fun ξ κ=>?_
    obtain ⟨done, hdone, hI⟩ := e_4
    obtain ⟨e_6, hq⟩ := e_5
    refine κ ?_;clear κ ξ
    subst e_6
    refine n_callf (x := "countOf") (f := 114) (i := 15) Gc rfl (by rfl) (by rfl) (by decide) rfl ?_
    refine args_cons (n_local rfl (by rfl) (by rfl) hmx ?_)
    refine args_cons (e_strF [46] rfl fun k hk hk0 => ?_)
    refine args_nil ?_
    refine WB.callSF Gc (fun s' O' at' hfs => f_count (av := mkS q.1 q.2) (y := toStr [46]) (u := k) O' (Rd.le (by omega)) [] (fun c : Nat => toStr [c]) (signT (k + 1)) q.1 (k + 1) (Nat.ne_of_gt hk0) (by rw [flo_setF] at hfs; exact hfs)
      (fun p hp => nomatch hp)
      (fun A' h1 L1 m1 N1 Q1 hh hat hq2 => it_str (T := k + 1) hh fun I o _ hY => hq2 I o (by simpa using hY))
      (fun c v ⟨t, e, ht⟩ => ⟨t, e, fun e0 => by rw [e0] at ht; omega, fun e0 => by rw [e0] at ht; exact absurd ht (Nat.not_succ_le_self k)⟩)) fun v new hv _ => ?_
    refine via fun ξ κ=>?_
    obtain ⟨t, e_7⟩ := hv
    refine κ ?_;clear κ ξ
    subst e_7
    refine ⟨done ++ [q], by simp [hdone], ?_⟩
    rw [List.map_append]
    exact hI.append Ints.nil.cons
  · intro D k ys T e_8 hD
    refine via fun ξ κ=>?_
    obtain ⟨done, hdone, hI⟩ := e_8
    refine κ ?_;clear κ ξ
    rw [List.append_nil] at hdone
    subst hdone
    exact h D ys k T _ hI (fun p hp => by simp [hp])
end hsums_comp
theorem sums_comp {g0 mg mb A E h₀ L m N cn a0 ccd cl ps pl po Q} : hsums_comp.st_ g0 mg mb A E h₀ L m N cn a0 ccd cl ps pl po Q := Mine.hk hsums_comp.ne_ (P := hsums_comp.Q_) hsums_comp.main_ ((((g0, mg), (mb, A)), ((E, h₀), (L, m))), (((N, cn), (a0, ccd)), ((cl, ps), (pl, (po, Q)))))
section
variable {prog : Program} {w : World} {g0 : Cx} {mg mb : Loc} {A : Around} {E : Value → Shared → Prop} {s : Shared} {h₀ : Heap} {L : Addr} {m : Loc} {N : Led}
end
end Mine

end

section
open PySem PySem.W PyProof.Rows
namespace Mine
open PySem.Spec
open Builtin.Int (intBits)
section
variable {prog : Program} {w : World} {g0 : Cx} {mg mb : Loc} {A : Around} {E : Value → Shared → Prop} {s : Shared} {h₀ : Heap} {L : Addr} {m : Loc} {N : Led}
theorem row_len {n wd : Nat} {near : Int} {mk : Nat} {ds : List Int} {ps : List (List Nat × Tok)} (P : LawP n wd near mk ds ps) : ps.length ≤ 15 ∧ ∀ q ∈ ps, q.1.length ≤ 1000 ∧ ∀ c ∈ q.1, c < 0x110000 := by
  constructor
  · have h1 := P.perm.length_eq
    rw [List.length_map, List.length_map] at h1
    refine (Eq.symm h1) ▸ ?_
    refine pairSums_len6 ds ?_
    have := P.dok.1
    have := P.n6
    omega
  · intro q hq
    have h1 : q.1 ∈ ps.map (·.1) := List.mem_map_of_mem hq
    have h2 := P.perm.mem_iff.mp h1
    refine exE1 (List.mem_map.mp h2) fun v h_0 => anE2 h_0 fun hv e => ?_
    clear h_0
    refine via fun ξ κ=>?_
    obtain ⟨a, ha, b, hb, e_1⟩ := pairSums_mem hv
    refine κ ?_;clear κ ξ
    subst e_1
    have := P.dok.bd a ha
    have := P.dok.bd b hb
    have := P.mkk
    refine e ▸ ?_
    refine ⟨by simp [rowT]; omega, fun c hc => ?_⟩
    have := rowT_mem hc; omega
theorem sum_facts {n wd : Nat} {near : Int} {mk : Nat} {ds : List Int} {ps : List (List Nat × Tok)} (P : LawP n wd near mk ds ps) :
    (ps.map fun q => cnt46 q.1).Perm (pairSums ds) ∧ (∀ x ∈ ps.map fun q => cnt46 q.1, 0 ≤ x ∧ x ≤ 64) ∧ (ps.map fun q => cnt46 q.1).length ≤ 16 := by
  have hp := counts_perm P.mkk.2.1 P.dok.bd P.perm
  refine ⟨hp, fun x hx => ?_, by rw [List.length_map]; have := (row_len P).1; omega⟩
  refine via fun ξ κ=>?_
  obtain ⟨a, ha, b, hb, e_2⟩ := pairSums_mem (hp.mem_iff.mp hx)
  refine κ ?_;clear κ ξ
  subst e_2
  have := P.dok.bd a ha
  have := P.dok.bd b hb
  omega
theorem far_lt {wd : Nat} (h : wd ≤ 4423) : (2 : Int) ^ wd - 1 < 2 ^ 4500 := by
  have : (2 : Int) ^ wd ≤ 2 ^ 4500 := by exact_mod_cast Nat.pow_le_pow_right (by decide) (show wd ≤ 4500 by omega)
  omega
end
namespace hlaw_four
noncomputable def st_ (g0 : Mine.Cx) (mg mb : Mine.Loc) (A : PySem.Around) (h₀ : PySem.Heap) (L : PySem.Addr) (m : Mine.Loc) (N : Mine.Led) (cn : PySem.Str) (a0 : PySem.Addr) (ccd : PySem.Value) (wd : Nat) (tot near : Int) (mk : Nat) (ps : List (List Nat × PySem.Tok)) (dl pl lc : PySem.Addr) : Prop := ∀ {ds : List Int} (G : Gd mg mb h₀) (Rd : Room A 40) (hfr : A.frames = some [envX cn (scopeOf 31) L a0 ccd [(Str.ofString "half", lc)]]) (P : LawP 4 wd near mk ds ps) (S : LawS h₀ 4 wd tot near mk ds ps dl pl lc m N), WB g0 A (fun _ _ => False) h₀ L m N (execs ((bodyOf 31).drop 10) (envX cn (scopeOf 31) L a0 ccd [(Str.ofString "half", lc)])) fun f _ _ => f = .ret (.bool true)
noncomputable abbrev T_ := ((((Mine.Cx × Mine.Loc) × (Mine.Loc × PySem.Around)) × ((PySem.Heap × PySem.Addr) × (Mine.Loc × (Mine.Led × PySem.Str)))) × (((PySem.Addr × PySem.Value) × (Nat × (Int × Int))) × ((Nat × (List (List Nat × PySem.Tok))) × (PySem.Addr × (PySem.Addr × PySem.Addr)))))
theorem ne_ : Nonempty T_ := ⟨by repeat' (first | apply Prod.mk | exact default | exact nAr | exact nCx | exact nSh | constructor)⟩
noncomputable def Q_ (p : T_) : Prop := st_ p.1.1.1.1 p.1.1.1.2 p.1.1.2.1 p.1.1.2.2 p.1.2.1.1 p.1.2.1.2 p.1.2.2.1 p.1.2.2.2.1 p.1.2.2.2.2 p.2.1.1.1 p.2.1.1.2 p.2.1.2.1 p.2.1.2.2.1 p.2.1.2.2.2 p.2.2.1.1 p.2.2.1.2 p.2.2.2.1 p.2.2.2.2.1 p.2.2.2.2.2
noncomputable def w_ : T_ := @Classical.epsilon _ ne_ fun p => ¬ Q_ p
noncomputable def L := w_.1.2.1.2
noncomputable def m := w_.1.2.2.1
noncomputable def N := w_.1.2.2.2.1
noncomputable def cn := w_.1.2.2.2.2
noncomputable def a0 := w_.2.1.1.1
noncomputable def ccd := w_.2.1.1.2
noncomputable def wd := w_.2.1.2.1
noncomputable def near := w_.2.1.2.2.2
noncomputable def ps := w_.2.2.1.2
noncomputable def dl := w_.2.2.2.1
noncomputable def lc := w_.2.2.2.2.2
set_option maxHeartbeats 2000000 in
theorem main_ : st_ w_.1.1.1.1 w_.1.1.1.2 w_.1.1.2.1 w_.1.1.2.2 w_.1.2.1.1 L m N cn a0 ccd wd w_.2.1.2.2.1 near w_.2.2.1.1 ps dl w_.2.2.2.2.1 lc := by
  intro ds G Rd hfr P S
  refine via fun ξ κ=>?_
  obtain ⟨⟨t1, a1⟩, ⟨t2, a2⟩, ⟨t3, a3⟩, ⟨t4, a4⟩, ⟨t5, a5⟩, ⟨t6, a6⟩, a7, a8, ⟨dob, dvs, hdm, hdX, hdI⟩, ⟨po, hpm, hpX⟩, ⟨oc, hcm, hoc⟩⟩ := S
  refine κ ?_;clear κ ξ
  refine anE2 (row_len P) fun hps1 hps2 => ?_
  refine anE3 (sum_facts P) fun sf1 sf2 sf3 => ?_
  refine exE3 (P.dok.2.2 rfl) fun a b c h_0 => anE4 h_0 fun e_3 ha hb hcc => ?_
  clear h_0
  subst e_3
  show WB _ _ _ _ _ _ _ (execs (.Try _ [.ExceptHandler (some (.Name (Str.ofString "ZeroDivisionError") _)) none [.Assign [.Name _ _] (.Constant .none _ _) _] _] [] [] _ :: _) _) _
  refine ex_try_zde G ks_law k_law_ZeroDivisionError k_law_powers hfr (fun N1 hN1 => ?_) (fun m' sb => ?_)
  · show WB _ _ _ _ _ _ _ (execs (.Assign [.Name _ _] (.Call (.Name _ _) [sumsComp, _, _, _] [] _) _ :: []) _) _
    refine ex_assignL ks_law k_law_powers ?_
    refine e_callf G ks_law k_law__law_powers (f := 174) (i := 28) (by decide) rfl ?_
    refine args_cons ?_
    refine sums_comp G (Rd.le (by omega)) (.inr (hN1 _ hpm)) hpX (by omega) (fun q hq => (hps2 q hq).1) a8 fun D ys k T N' hI hN' => ?_
    have sb0 : SameBut [""] m (setF m T) := fun x hx => by
      rw [setF_str, if_neg (fun e => hx (by rw [e]; exact .head _))]
    refine args_cons (e_local ks_law k_law_size (v := .int ((4 : Nat) : Int) t1) (by kwd_inv) ?_)
    refine args_cons (e_local ks_law k_law_far (v := .int (2 ^ wd - 1) t4) (by kwd_inv) ?_)
    refine args_cons (e_local ks_law k_law_near (v := .int near t5) (by kwd_inv) ?_)
    refine args_nil ?_
    refine WB.callE G fun s' I' O' => ?_
    have hF : FunOK s'.heap [envX cn (scopeOf 31) L a0 ccd [(Str.ofString "half", lc)]] := by
      refine exE3 I'.fr.ns fun oL es ep h_0 => anE3 h_0 fun e1 e2 e3 => ?_
      clear h_0
      exact ⟨by rw [show (envX cn (scopeOf 31) L a0 ccd [(Str.ofString "half", lc)]).scope.kind = .function from ks_law]; decide, ⟨L, oL, rfl, Nat.lt_of_lt_of_le I'.t54.1 I'.fr.above, e1, fun vs e => by rw [e2] at e; cases e⟩, trivial⟩
    refine wpAny_mono (wpAny_toks_of (n := s'.toks) (Nat.le_refl _) (f_powers0 (p := PS [a, b, c, a + b + c - 2]) (far := 2 ^ wd - 1) (near := near) (ss := ps.map fun q => cnt46 q.1) O' (Rd.le (by omega)) (I'.at (.inr (.head _))) (LP.of ys k).lo hI sf2 sf3 (PS_zero _) (fun i hi => ?_) (fun i hi => ?_) (far_lt P.w44) P.near0 P.nearf hfr hF)) (fun _ _ h => h.2) fun e s'' x => exI3 s' _ _ ⟨I', sb0, fun p hp => .tail _ (hN' p hp), x.2, x.1⟩
    · have := PS_bd7 i (by omega) [a, b, c, a + b + c - 2] (fun x hx => by
        simp only [List.mem_cons, List.not_mem_nil, or_false] at hx
        omega)
      have e25 : (2 : Int) ^ 25 = 33554432 := by decide
      simp only [List.length_cons, List.length_nil] at this
      omega
    · refine (Eq.symm (sumP_perm _ sf1)) ▸ ?_
      exact straus [a, b, c, a + b + c - 2] i (by omega)
  have g : ∀ x : String, x ≠ "" → x ≠ "powers" → ∀ v, m (Str.ofString x) = some v → upd m' (Str.ofString "powers") .none (Str.ofString x) = some v := fun x hx hx2 v hv => by
    rw [upd_get, if_neg (fun e => hx2 (ofString_inj.mp e))]
    exact (sb x (by simpa using hx)).trans hv
  have gp : upd m' (Str.ofString "powers") .none (Str.ofString "powers") = some .none := by kwd_inv
  generalize upd m' (Str.ofString "powers") .none = m2 at *
  refine ex_if ?_
  refine t_cmp ?_
  refine e_local ks_law k_law_size (g "size" (by decide) (by decide) _ a1) ?_
  refine e_int fun _ => ?_
  refine i_eq (truthy_b ?_)
  refine if_t1 (show (((4 : Nat) : Int) == 4) = true from rfl) ?_
  show WB _ _ _ _ _ _ _ (execs (_ :: _ :: _) _) _
  refine ex_assign ?_
  refine e_bin ?_
  refine e_callb G ks_law k_law_sum (id := "sum") (by decide) rfl ?_
  refine args_cons (e_local ks_law k_law_dots (g "dots" (by decide) (by decide) _ a7) ?_)
  refine args_nil ?_
  refine c_sum Rd.handled (.inr hdm) hdX.lo hdI fun ts => ?_
  refine e_int fun _ => ?_
  have hsum : [a, b, c, a + b + c - 2].sum = 2 * (a + b + c - 1) := by simp [List.sum_cons]; omega
  refine (Eq.symm hsum) ▸ ?_
  have hbits : intBits (2 * (a + b + c - 1)) ≤ 6 := bits_le (by omega) (by
    have : (2 : Int) ^ 6 = 64 := by decide
    omega)
  refine i_fdiv (by decide) (noPy (by omega)) fun th => ?_
  have hhalf : (2 * (a + b + c - 1)).fdiv 2 = a + b + c - 1 := by rw [fdiv_pos (by decide)]; omega
  refine (Eq.symm hhalf) ▸ ?_
  refine WB.cell ks_law k_law_half rfl hcm hoc fun oc' N2 hoc' hH hm' => ?_
  have kp : ∀ p ∈ N, p.2.data ≠ .cell none → p ∈ N2 := fun p hp hne => (hH p hp).resolve_left fun e => hne (by rw [e]; exact hoc)
  have hdm2 := kp _ hdm (by obtain ⟨k, rfl⟩ := hdX; simp [lstObj])
  have hpm2 := kp _ hpm (by obtain ⟨k, rfl⟩ := hpX; simp [lstObj])
  refine ex_ret ?_
  refine e_and2 ?_
  refine e_cmp ?_
  refine e_local ks_law k_law_powers gp ?_
  refine e_none (is_none (truthy_b ?_))
  refine if_t4 (show ((Value.none == Value.none) = true) from rfl) ?_
  refine e_cmp ?_
  refine e_callf G ks_law k_law__law_pairs (f := 167) (i := 27) (by decide) rfl ?_
  refine args_cons ?_
  show WB _ _ _ _ _ _ _ (eval (.ListComp _ [⟨.Name _ _, _, [], 0⟩] _ _) _) _
  refine e_comp (cl := [(Str.ofString "half", lc)]) (fun (x : Int) v => ∃ t, v = .int x t) [a, b, c, a + b + c - 2]
    (fun r ys T => ∃ done, done ++ r = [a, b, c, a + b + c - 2] ∧ Ints ys (done.map fun x => a + b + c - 1 - x)) (by rfl) (by rfl) (by decide) (by rfl) (by rfl) (by decide) (by simp) rfl G ?_
  refine e_local ks_law k_law_dots (g "dots" (by decide) (by decide) _ a7) ?_
  have hdn := hdI.length
  refine it_listS Rd.handled (.inr hdm2) hdX.lo fun I o fI hY hself => ?_
  refine ⟨I, o, _, [(dl, dob)], rfl, rfl, ?_, hself, fun p h => by rw [List.mem_singleton.mp h]; exact .inr hdm2, ⟨[], rfl, Ints.nil⟩, ?_, ?_⟩
  · refine hY.mono (by simp [hdn]) fun i P P' h1 h2 v hv => ?_
    rw [List.getElem?_map] at h1 h2
    have h3 := congrArg (fun l => l[i]?) hdI
    simp only [List.getElem?_map] at h3
    cases hp : dvs[i]? with
    | none => rw [hp] at h1; cases h1
    | some p =>
      cases hq : ([a, b, c, a + b + c - 2] : List Int)[i]? with
      | none => rw [hq] at h2; cases h2
      | some q =>
        rw [hp, hq] at h3
        rw [hp] at h1
        rw [hq] at h2
        simp only [Option.map_some, Option.some.injEq] at h1 h2 h3
        rw [← h1] at hv; rw [← h2]
        have hv' : v = p := hv
        subst hv'
        cases v <;> simp [intOf] at h3
        exact ⟨_, by rw [h3]⟩
  · intro x r ys T v h₀c Cc mC e_4 e_5 Gc atc hmx hfl
    refine exE1 e_4 fun done h_0 => anE2 h_0 fun hdone hI => exE1 e_5 fun tv e_6 => ?_
    clear h_0 e_4 e_5
    subst e_6
    refine e_bin ?_
    refine n_free (o := oc') (c := lc) (by rfl) (.inr (by rfl)) (by rfl) (.inl (atc _ _ (.inr hm'))) hoc' ?_
    refine n_local rfl (by rfl) (by rfl) hmx ?_
    refine i_sub fun tz => ?_
    refine ⟨done ++ [x], by simp [hdone], ?_⟩
    refine (Eq.symm List.map_append) ▸ ?_
    exact hI.append Ints.nil.cons
  intro D k ys T e_7 hD
  refine exE1 e_7 fun done h_0 => anE2 h_0 fun hdone hI => ?_
  clear h_0 e_7
  rw [List.append_nil] at hdone
  subst hdone
  have g2 : ∀ x : String, x ≠ "" → x ≠ "powers" → ∀ v, m (Str.ofString x) = some v → setF m2 T (Str.ofString x) = some v := fun x hx hx2 v hv => by
    rw [setF_str, if_neg hx]; exact g x hx hx2 v hv
  refine args_cons (e_local ks_law k_law_mark (g2 "mark" (by decide) (by decide) _ a6) ?_)
  refine args_cons ?_
  refine e_bin ?_
  refine e_local ks_law k_law_total (g2 "total" (by decide) (by decide) _ a2) ?_
  refine e_int fun _ => ?_
  refine i_add fun _ => ?_
  refine args_nil ?_
  have hd' : ∀ d ∈ [a, b, c, a + b + c - 2].map (fun x => a + b + c - 1 - x), 1 ≤ d ∧ d ≤ 7 := by
    intro d hd
    simp only [List.map_cons, List.map_nil, List.mem_cons, List.not_mem_nil, or_false] at hd
    omega
  refine WB.callS G (fun s' O' at' => f_pairs O' (Rd.le (by omega)) (at' _ _ (.inr (.head _))) (LP.of ys k).lo hI hd' (by simp) (by simp) P.mkk) fun v new hv _ => ?_
  refine exE4 hv fun r2 ro2 ps2 F2 h_0 => anE6 h_0 fun e_8 hpm3 hpX3 hperm hpw hC2 => ?_
  clear h_0 hv
  subst e_8
  refine e_local ks_law k_law_pairs (g2 "pairs" (by decide) (by decide) _ a8) ?_
  have hrev : (pairSums ([a, b, c, a + b + c - 2].map fun x => a + b + c - 1 - x)).Perm (pairSums [a, b, c, a + b + c - 2]) := by
    have : pairSums ([a, b, c, a + b + c - 2].map fun x => a + b + c - 1 - x) = (pairSums [a, b, c, a + b + c - 2]).reverse := by
      simp only [List.map_cons, List.map_nil, pairSums, List.append_nil, List.cons_append, List.nil_append, List.reverse_cons, List.reverse_nil, List.cons.injEq, and_true]
      omega
    rw [this]; exact List.reverse_perm _
  have hsame : ps2.map (·.1) = ps.map (·.1) := same_sorted (hperm.trans ((hrev.map _).trans P.perm.symm)) hpw P.sorted
  have h11 : ∀ q ∈ ps2, ∀ c ∈ q.1, c < 0x110000 := fun q hq c hc => by
    have h1 : q.1 ∈ ps2.map (·.1) := List.mem_map_of_mem hq
    rw [hsame] at h1
    refine exE1 (List.mem_map.mp h1) fun q' h_0 => anE2 h_0 fun hq' e => ?_
    clear h_0
    exact (hps2 q' hq').2 c (by rw [e]; exact hc)
  refine ll_eq (Rd.le (by omega)) (.inr (List.mem_append_left _ hpm3)) hpX3 (.inr (List.mem_append_right _ (.tail _ hpm2))) hpX h11 (fun q hq => (hps2 q hq).2) ?_
  rw [hsame, beq_self_eq_true]
end hlaw_four
theorem law_four {g0 mg mb A h₀ L m N cn a0 ccd wd tot near mk ps dl pl lc} : hlaw_four.st_ g0 mg mb A h₀ L m N cn a0 ccd wd tot near mk ps dl pl lc := Mine.hk hlaw_four.ne_ (P := hlaw_four.Q_) hlaw_four.main_ ((((g0, mg), (mb, A)), ((h₀, L), (m, (N, cn)))), (((a0, ccd), (wd, (tot, near))), ((mk, ps), (dl, (pl, lc)))))
section
variable {prog : Program} {w : World} {g0 : Cx} {mg mb : Loc} {A : Around} {E : Value → Shared → Prop} {s : Shared} {h₀ : Heap} {L : Addr} {m : Loc} {N : Led}
end
end Mine

end

section
open PySem PySem.W PyProof.Rows
namespace Mine
open PySem.Spec
open Builtin.Int (intBits)
theorem pick_all : ∀ (m pre : List Value), (List.range' pre.length m.length).filterMap (fun k => (pre ++ m)[k]?) = m
  | [], _ => rfl
  | x :: m, pre => by
    rw [List.length_cons, List.range'_succ, List.filterMap_cons]
    have e : (pre ++ x :: m)[pre.length]? = some x := by simp
    rw [e]
    have ih := pick_all m (pre ++ [x])
    rw [List.length_append, List.length_singleton] at ih
    simp only [List.append_assoc, List.singleton_append] at ih
    rw [ih]
theorem slicePick_rev (vs : List Value) : (slicePick vs.toArray none none (some (-1))).toList = vs.reverse := by
  have e0 : slicePick vs.toArray none none (some (-1)) = ((Builtin.Str.strSliceIndices none none (-1) vs.toArray.size).filterMap (vs.toArray[·]?)).toArray := rfl
  rw [e0, picked_rev, List.filterMap_map]
  have h := pick_all vs.reverse []
  simp only [List.nil_append, List.length_nil] at h
  rw [← List.range_eq_range'] at h
  have hsz : vs.toArray.size = vs.length := by simp
  rw [hsz]
  conv => rhs; rw [← h]
  rw [List.length_reverse]
  show List.filterMap _ (List.range vs.length) = _
  have : ∀ l : List Nat, (∀ k ∈ l, k < vs.length) → l.filterMap ((fun x => vs.toArray[x]?) ∘ fun k => vs.length - 1 - k) = l.filterMap fun k => vs.reverse[k]? := by
    intro l hl
    induction l with
    | nil => rfl
    | cons k l ih =>
      rw [List.filterMap_cons, List.filterMap_cons, ih fun k hk => hl k (.tail _ hk)]
      have hk := hl k (.head _)
      have e : ((fun x => vs.toArray[x]?) ∘ fun k => vs.length - 1 - k) k = vs.reverse[k]? := by
        show vs.toArray[vs.length - 1 - k]? = _
        rw [List.getElem?_reverse hk]; simp
      rw [e]
  exact this _ fun k hk => List.mem_range.mp hk
theorem div_facts (a d : Int) (hd : d ≠ 0) : a.fdiv d * d + a.fmod d = a ∧ (d < 0 → d < a.fmod d ∧ a.fmod d ≤ 0) ∧ (0 < d → 0 ≤ a.fmod d ∧ a.fmod d < d) ∧ (a.fmod d).fdiv d = 0 ∧ (a.fmod d).fmod d = a.fmod d := by
  have h1 : a.fdiv d * d + a.fmod d = a := by rw [Int.mul_comm]; exact Int.mul_fdiv_add_fmod a d
  have hpos : ∀ (a d : Int), 0 < d → (0 ≤ a.fmod d ∧ a.fmod d < d) ∧ (a.fmod d).fdiv d = 0 ∧ (a.fmod d).fmod d = a.fmod d := by
    intro a d h
    rw [fmod_pos h]
    have r0 := Int.emod_nonneg a (Int.ne_of_gt h)
    have r1 := Int.emod_lt_of_pos a h
    rw [fdiv_pos h, fmod_pos h]
    exact ⟨⟨r0, r1⟩, Int.ediv_eq_zero_of_lt r0 r1, Int.emod_eq_of_lt r0 r1⟩
  refine ⟨h1, ?_, fun h => (hpos a d h).1, ?_⟩
  · intro h
    have hn := (fdm_neg a d h).2
    have hp := (hpos (-a) (-d) (by omega)).1
    omega
  · rcases Int.lt_or_gt_of_ne hd with h | h
    · have hn := (fdm_neg a d h).2
      have hp := hpos (-a) (-d) (by omega)
      have h2 := fdm_neg (a.fmod d) d h
      rw [h2.1, h2.2]
      have e : -(a.fmod d) = (-a).fmod (-d) := by omega
      rw [e, hp.2.1, hp.2.2]
      exact ⟨rfl, by omega⟩
    · exact (hpos a d h).2
theorem div_exact (k d : Int) (hd : d ≠ 0) : (k * d).fdiv d = k ∧ (k * d).fmod d = 0 := by
  rcases Int.lt_or_gt_of_ne hd with h | h
  · have h2 := fdm_neg (k * d) d h
    have e : -(k * d) = k * -d := by rw [Int.mul_neg]
    rw [h2.1, h2.2, e, fdiv_pos (by omega), fmod_pos (by omega)]
    have := divmod_uniq (a := k * -d) (b := -d) (q := k) (r := 0) (by omega) (by omega) (by omega) (by omega)
    rw [this.1, this.2]; simp
  · rw [fdiv_pos h, fmod_pos h]
    exact divmod_uniq h (by omega) (by omega) h
theorem prodX_bd {X : Int} (hX : 6 < X) : ∀ xs : List Int, (∀ x ∈ xs, 1 ≤ x ∧ x ≤ 6) → 0 < prodX X xs ∧ prodX X xs ≤ (2 * X) ^ xs.length
  | [], _ => by simp [prodX]
  | x :: xs, h => by
    have ih := prodX_bd hX xs fun y hy => h y (.tail _ hy)
    have hx := h x (.head _)
    have h1 : 0 < (X + x) * prodX X xs := Int.mul_pos (by omega) ih.1
    have h2 : (X + x) * prodX X xs ≤ (2 * X) * (2 * X) ^ xs.length := Int.mul_le_mul (by omega) ih.2 (by omega) (by omega)
    rw [prodX, List.length_cons, Int.pow_succ, Int.mul_comm ((2 * X) ^ xs.length)]
    exact ⟨h1, h2⟩
theorem number_bits {wd : Nat} {xs : List Int} {sg : Int} (hw : 24 ≤ wd) (hw2 : wd ≤ 4423) (hsg : sg = 1 ∨ sg = -1) (hx : ∀ x ∈ xs, 1 ≤ x ∧ x ≤ 6) (hl : xs.length ≤ 6) : intBits (sg * prodX (2 ^ wd) xs) ≤ 26600 := by
  have hX : (2 : Int) ^ 24 ≤ 2 ^ wd := by exact_mod_cast Nat.pow_le_pow_right (by decide) hw
  have e24 : (2 : Int) ^ 24 = 16777216 := by decide
  have hb := prodX_bd (X := 2 ^ wd) (by omega) xs hx
  have h2 : (2 * (2 : Int) ^ wd) ^ xs.length < 2 ^ 26600 := by
    have e : (2 * (2 : Int) ^ wd) = 2 ^ (wd + 1) := by rw [p2succ]
    rw [e, ← Int.pow_mul]
    have : (2 : Nat) ^ ((wd + 1) * xs.length) < 2 ^ 26600 := by
      refine Nat.pow_lt_pow_right (by decide) ?_
      have : (wd + 1) * xs.length ≤ 4424 * 6 := Nat.mul_le_mul (by omega) hl
      omega
    exact_mod_cast this
  rcases hsg with rfl | rfl
  · rw [Int.one_mul]; exact bits_le (by omega) (by omega)
  · rw [Int.neg_mul, Int.one_mul, bits_neg]; exact bits_le (by omega) (by omega)
theorem div_turn {wd : Nat} {xs : List Int} {sg c : Int} (neg : Bool) (hw : 24 ≤ wd) (hsg : sg = 1 ∨ sg = -1) (hx : ∀ x ∈ xs, 1 ≤ x ∧ x ≤ 6) (hl : xs.length ≤ 6) (hc : 1 ≤ c ∧ c ≤ 6) :
    let d := if neg then -(2 ^ wd + c) else 2 ^ wd + c
    d ≠ 0 ∧ (c ∈ xs → (sg * prodX (2 ^ wd) xs).fdiv d = (if neg then -sg else sg) * prodX (2 ^ wd) (xs.erase c) ∧ (sg * prodX (2 ^ wd) xs).fmod d = 0) ∧ (c ∉ xs → (sg * prodX (2 ^ wd) xs).fmod d ≠ 0) := by
  intro d
  have hX : (2 : Int) ^ 24 ≤ 2 ^ wd := by exact_mod_cast Nat.pow_le_pow_right (by decide) hw
  have e24 : (2 : Int) ^ 24 = 16777216 := by decide
  have hd0 : d ≠ 0 := by show (if neg then _ else _) ≠ 0; split <;> omega
  refine ⟨hd0, fun hm => ?_, fun hm h0 => ?_⟩
  · have e : sg * prodX (2 ^ wd) xs = ((if neg then -sg else sg) * prodX (2 ^ wd) (xs.erase c)) * d := by
      rw [prod_erase _ c xs hm]
      show _ = _ * (if neg then _ else _)
      cases neg <;> simp only [if_true, if_false, Bool.false_eq_true] <;> grind
    rw [e]
    exact div_exact _ d hd0
  · have hne := prod_rest (2 ^ wd) c xs (by omega) hc hx hl hm
    have h1 := (div_facts (sg * prodX (2 ^ wd) xs) d hd0).1
    rw [h0, Int.add_zero] at h1
    apply hne
    have hdv : (2 ^ wd + c) ∣ prodX (2 ^ wd) xs := by
      have h2 : (2 ^ wd + c) ∣ sg * prodX (2 ^ wd) xs := by
        rw [← h1]
        show _ ∣ _ * (if neg then _ else _)
        cases neg with
        | true => rw [if_pos rfl, Int.mul_neg]; exact Int.dvd_neg.mpr (Int.dvd_mul_left _ _)
        | false => rw [if_neg (by decide)]; exact Int.dvd_mul_left _ _
      rcases hsg with rfl | rfl
      · rwa [Int.one_mul] at h2
      · rw [Int.neg_mul, Int.one_mul] at h2; exact Int.dvd_neg.mp h2
    exact Int.emod_eq_zero_of_dvd hdv
end Mine

end

section
open PySem PySem.W PyProof.Rows
namespace Mine
open PySem.Spec
open Builtin.Int (intBits)
noncomputable def outerBody : List Stmt := loopBody ((bodyOf 31).getD 18 (.Pass default))
noncomputable def innerBody : List Stmt := loopBody (outerBody.getD 1 (.Pass default))
structure DivS (n wd : Nat) (ds cm xs : List Int) (sg : Int) (dl cl : Addr) (m : Loc) (N : Led) : Prop where
  number : ∃ t, m (Str.ofString "number") = some (.int (sg * prodX (2 ^ wd) xs) t)
  came : m (Str.ofString "came") = some (.ref cl)
  sign : ∃ t, m (Str.ofString "sign") = some (.int sg t)
  size : ∃ t, m (Str.ofString "size") = some (.int n t)
  width : ∃ t, m (Str.ofString "width") = some (.int wd t)
  dots : m (Str.ofString "dots") = some (.ref dl)
  co : ∃ co cv, (cl, co) ∈ N ∧ LX co cv ∧ Ints cv cm
  dat : ∃ dob dvs, (dl, dob) ∈ N ∧ LX dob dvs ∧ Ints dvs ds
theorem DivS.grow {n wd : Nat} {ds cm xs : List Int} {sg : Int} {dl cl : Addr} {m m' : Loc} {N N' : Led} (x : DivS n wd ds cm xs sg dl cl m N) (h : ∀ y ∈ ["number", "came", "sign", "size", "width", "dots"], m' (Str.ofString y) = m (Str.ofString y)) (hN : ∀ p ∈ N, p ∈ N') : DivS n wd ds cm xs sg dl cl m' N' := by
  refine via fun ξ κ=>?_
  obtain ⟨a, b, c, d, e, f, ⟨co, cv, g1, g2⟩, ⟨dob, dvs, g3, g4⟩⟩ := x
  refine κ ?_;clear κ ξ
  exact ⟨by rw [h "number" (by decide)]; exact a, by rw [h "came" (by decide)]; exact b, by rw [h "sign" (by decide)]; exact c, by rw [h "size" (by decide)]; exact d, by rw [h "width" (by decide)]; exact e, by rw [h "dots" (by decide)]; exact f, ⟨co, cv, hN _ g1, g2⟩, ⟨dob, dvs, hN _ g3, g4⟩⟩
theorem fdiv_bits {a d : Int} (hd : d ≠ 0) {k : Nat} (h : intBits a ≤ k) : intBits (a.fdiv d) ≤ k := by
  have key : ∀ a d : Int, 0 < d → intBits (a.fdiv d) ≤ intBits a := fun a d h => by
    refine (Eq.symm (fdiv_pos h)) ▸ ?_
    refine intBits_le_iff.mpr (Nat.lt_of_le_of_lt (Int.natAbs_ediv_le_natAbs a d) (intBits_le_iff.mp (Nat.le_refl _)))
  rcases Int.lt_or_gt_of_ne hd with h1 | h1
  · refine (Eq.symm ((fdm_neg a d h1).1)) ▸ ?_
    have := key (-a) (-d) (by omega)
    rw [bits_neg] at this
    omega
  · have := key a d h1; omega
section
variable {prog : Program} {w : World} {g0 : Cx} {mg mb : Loc} {A : Around} {E : Value → Shared → Prop} {s : Shared} {h₀ : Heap} {L : Addr} {m : Loc} {N : Led}
end
namespace hinner_turn
noncomputable def st_ (g0 : Mine.Cx) (mg mb : Mine.Loc) (A : PySem.Around) (h₀ : PySem.Heap) (L : PySem.Addr) (m : Mine.Loc) (N : Mine.Led) (cn : PySem.Str) (a0 : PySem.Addr) (ccd : PySem.Value) (cl0 : List (PySem.Str × PySem.Addr)) (n wd j : Nat) (c : Int) (ds cm xs : List Int) (sg : Int) (dl cl : PySem.Addr) (ta tc td : PySem.Tok) : Prop := ∀ (G : Gd mg mb h₀) (Rd : Room A 30) (hw : 24 ≤ wd) (hw2 : wd ≤ 4423) (hsg : sg = 1 ∨ sg = -1) (hx : ∀ x ∈ xs, 1 ≤ x ∧ x ≤ 6) (hl : xs.length ≤ 6) (hcm : cm.length ≤ 6) (hc : 1 ≤ c ∧ c ≤ 6) (hne : dl ≠ cl) (S : DivS n wd ds cm xs sg dl cl m N) (mc : m (Str.ofString "count") = some (.int c tc)) (ma : m (Str.ofString "again") = some (.int (0 + (j : Int)) ta)) (md : m (Str.ofString "divisor") = some (.int (if j % 2 = 0 then 2 ^ wd + c else -(2 ^ wd + c)) td)), WB g0 A (fun _ _ => False) h₀ L m N (execs innerBody (envX cn (scopeOf 31) L a0 ccd cl0)) fun f m' N' =>
      (f = .next ∧ c ∈ xs ∧ DivS n wd ds (cm ++ [c]) (xs.erase c) (if j % 2 = 0 then -sg else sg) dl cl m' N' ∧ (∃ t, m' (Str.ofString "count") = some (.int c t)) ∧ ∃ t, m' (Str.ofString "divisor") = some (.int (if (j + 1) % 2 = 0 then 2 ^ wd + c else -(2 ^ wd + c)) t)) ∨ (f = .brk ∧ c ∉ xs ∧ DivS n wd ds cm xs sg dl cl m' N')
noncomputable abbrev T_ := ((((Mine.Cx × (Mine.Loc × Mine.Loc)) × (PySem.Around × (PySem.Heap × PySem.Addr))) × ((Mine.Loc × (Mine.Led × PySem.Str)) × (PySem.Addr × (PySem.Value × (List (PySem.Str × PySem.Addr)))))) × (((Nat × (Nat × Nat)) × (Int × ((List Int) × (List Int)))) × (((List Int) × (Int × PySem.Addr)) × ((PySem.Addr × PySem.Tok) × (PySem.Tok × PySem.Tok)))))
theorem ne_ : Nonempty T_ := ⟨by repeat' (first | apply Prod.mk | exact default | exact nAr | exact nCx | exact nSh | constructor)⟩
noncomputable def Q_ (p : T_) : Prop := st_ p.1.1.1.1 p.1.1.1.2.1 p.1.1.1.2.2 p.1.1.2.1 p.1.1.2.2.1 p.1.1.2.2.2 p.1.2.1.1 p.1.2.1.2.1 p.1.2.1.2.2 p.1.2.2.1 p.1.2.2.2.1 p.1.2.2.2.2 p.2.1.1.1 p.2.1.1.2.1 p.2.1.1.2.2 p.2.1.2.1 p.2.1.2.2.1 p.2.1.2.2.2 p.2.2.1.1 p.2.2.1.2.1 p.2.2.1.2.2 p.2.2.2.1.1 p.2.2.2.1.2 p.2.2.2.2.1 p.2.2.2.2.2
noncomputable def w_ : T_ := @Classical.epsilon _ ne_ fun p => ¬ Q_ p
noncomputable def g0 := w_.1.1.1.1
noncomputable def A := w_.1.1.2.1
noncomputable def h₀ := w_.1.1.2.2.1
noncomputable def L := w_.1.1.2.2.2
noncomputable def m := w_.1.2.1.1
noncomputable def N := w_.1.2.1.2.1
noncomputable def cn := w_.1.2.1.2.2
noncomputable def a0 := w_.1.2.2.1
noncomputable def ccd := w_.1.2.2.2.1
noncomputable def cl0 := w_.1.2.2.2.2
noncomputable def n := w_.2.1.1.1
noncomputable def wd := w_.2.1.1.2.1
noncomputable def j := w_.2.1.1.2.2
noncomputable def c := w_.2.1.2.1
noncomputable def xs := w_.2.2.1.1
noncomputable def sg := w_.2.2.1.2.1
noncomputable def dl := w_.2.2.1.2.2
noncomputable def cl := w_.2.2.2.1.1
noncomputable def ta := w_.2.2.2.1.2
noncomputable def tc := w_.2.2.2.2.1
set_option maxHeartbeats 2000000 in
theorem main_ : st_ g0 w_.1.1.1.2.1 w_.1.1.1.2.2 A h₀ L m N cn a0 ccd cl0 n wd j c w_.2.1.2.2.1 w_.2.1.2.2.2 xs sg dl cl ta tc w_.2.2.2.2.2 := by
  intro G Rd hw hw2 hsg hx hl hcm hc hne S mc ma md
  show WB _ _ _ _ _ _ _ (execs (_ :: _ :: _ :: _ :: _ :: _ :: _ :: _ :: _ :: []) _) _
  refine via fun ξ κ=>?_
  obtain ⟨neg, hneg⟩ : ∃ b : Bool, b = decide (j % 2 = 0) := ⟨_, rfl⟩
  refine κ ?_;clear κ ξ
  have dt := div_turn (wd := wd) (xs := xs) (sg := sg) (c := c) neg hw hsg hx hl hc
  have ed : -(if j % 2 = 0 then 2 ^ wd + c else -(2 ^ wd + c)) = (if neg then -(2 ^ wd + c) else 2 ^ wd + c : Int) := by
    rw [hneg]; by_cases h : j % 2 = 0 <;> simp [h]
  have nb := number_bits hw hw2 hsg hx hl
  have hX : (2 : Int) ^ 24 ≤ 2 ^ wd := by exact_mod_cast Nat.pow_le_pow_right (by decide) hw
  have e24 : (2 : Int) ^ 24 = 16777216 := by decide
  have hdb : intBits (if neg then -(2 ^ wd + c) else 2 ^ wd + c : Int) ≤ 4424 := by
    have h1 : (2 : Int) ^ wd + c < 2 ^ (wd + 1) := by rw [p2succ]; omega
    have h2 := bits_le (b := 2 ^ wd + c) (n := wd + 1) (by omega) h1
    cases neg
    · rw [if_neg (by decide)]; omega
    · rw [if_pos rfl, bits_neg]; omega
  refine anE3 dt fun dt0 dt1 dt2 => ?_
  clear dt
  have hsgn : (if neg then (if neg then -(2 ^ wd + c) else 2 ^ wd + c : Int) < 0 else 0 < (if neg then -(2 ^ wd + c) else 2 ^ wd + c : Int)) := by
    cases neg
    · rw [if_neg (by decide), if_neg (by decide)]; omega
    · rw [if_pos rfl, if_pos rfl]; omega
  have hnext : (if (j + 1) % 2 = 0 then 2 ^ wd + c else -(2 ^ wd + c) : Int) = (if neg then -(2 ^ wd + c) else 2 ^ wd + c : Int) := by
    refine (Eq.symm hneg) ▸ ?_
    by_cases h : j % 2 = 0
    · have h2 : ¬ (j + 1) % 2 = 0 := by omega
      simp [h, h2]
    · have h2 : (j + 1) % 2 = 0 := by omega
      simp [h, h2]
  have hsg' : (if j % 2 = 0 then -sg else sg) = (if neg then -sg else sg) := by rw [hneg]; by_cases h : j % 2 = 0 <;> simp [h]
  rw [hnext, hsg']
  refine exE1 S.number fun tn mn => ?_
  generalize hd : (if neg then -(2 ^ wd + c) else 2 ^ wd + c : Int) = d at *
  have df := div_facts (sg * prodX (2 ^ wd) xs) d dt0
  generalize hnum : sg * prodX (2 ^ wd) xs = num at *
  refine ex_assignL ks_law k_law_divisor ?_
  refine e_callf G ks_law k_law_neg (f := 93) (i := 12) (by decide) rfl ?_
  refine args_cons (e_local ks_law k_law_divisor md ?_)
  refine args_nil ?_
  refine WB.callI G (fun s' O' at' => f_neg O' (Rd.le (by omega))) fun t1 new1 => ?_
  refine (Eq.symm ed) ▸ ?_
  refine ex_assign2 Rd.handled ks_law k_law_quotient k_law_rest ?_
  refine e_callf G ks_law k_law_int_divmod (f := 72) (i := 8) (by decide) rfl ?_
  refine args_cons (e_local ks_law k_law_number (v := .int num tn) (by kwd_inv) ?_)
  refine args_cons (e_local ks_law k_law_divisor (v := .int d t1) (by kwd_inv) ?_)
  refine args_nil ?_
  refine WB.callDF (a := num) (b := d) G (fun s' O' at' => int_divmod O' (Rd.le (by omega)) dt0 (by have : (2 : Nat) ^ 16 = 65536 := by decide
                                                                                                    omega) (by have : (2 : Nat) ^ 14 = 16384 := by decide
                                                                                                               omega)) fun r2 kq kr new2 hm2 _ => ?_
  refine tupI r2 _ _ _ (.inr (List.mem_append_left _ hm2)) ?_
  have hqb := fdiv_bits (a := num) dt0 nb
  generalize hq : num.fdiv d = q at *
  generalize hr : num.fmod d = r at *
  have fineV : ∀ {Q : Value → Loc → Led → Prop} (m1 : Loc) (N1 : Led) {t2 t3 : Tok}, m1 (Str.ofString "again") = some (.int (0 + (j : Int)) ta) → m1 (Str.ofString "divisor") = some (.int d t2) → m1 (Str.ofString "rest") = some (.int r t3) → Q (.bool true) m1 N1 →
      WB g0 A (fun _ _ => False) h₀ L m1 N1 (eval (asgVal (innerBody.getD 2 (.Pass default))) (envX cn (scopeOf 31) L a0 ccd cl0)) Q := by
    intro Q m1 N1 t2 t3 ha hdv hrs hQ
    show WB _ _ _ _ _ _ _ (eval (.IfExp _ _ _ _) _) _
    refine e_ifexp ?_
    refine t_cmp ?_
    refine e_bin ?_
    refine e_local ks_law k_law_again ha ?_
    refine e_int fun _ => ?_
    refine i_mod (by decide) fun _ => ?_
    refine e_int fun _ => ?_
    refine i_eq (truthy_b ?_)
    have hj : ((0 + (j : Int)).fmod 2 == 0) = neg := by
      rw [fmod_pos (by decide), hneg]
      by_cases h : j % 2 = 0
      · rw [decide_eq_true h]; simp; omega
      · rw [decide_eq_false h]; simp; omega
    refine (Eq.symm hj) ▸ ?_
    cases neg with
    | true =>
      rw [if_pos rfl] at hsgn ⊢
      have := df.2.1 hsgn
      refine e_cmp2 ?_
      refine e_local ks_law k_law_divisor hdv ?_
      refine e_local ks_law k_law_rest hrs ?_
      refine i_lt (truthy_b ?_)
      refine if_t4 (decide_eq_true this.1) ?_
      refine e_int fun _ => ?_
      refine i_le ?_
      rw [decide_eq_true this.2]; exact hQ
    | false =>
      rw [if_neg (by decide)] at hsgn ⊢
      have := df.2.2.1 hsgn
      refine e_cmp2 ?_
      refine e_int fun _ => ?_
      refine e_local ks_law k_law_rest hrs ?_
      refine i_le (truthy_b ?_)
      refine if_t4 (decide_eq_true this.1) ?_
      refine e_local ks_law k_law_divisor hdv ?_
      refine i_lt ?_
      rw [decide_eq_true this.2]; exact hQ
  refine ex_assignL ks_law k_law_fine ?_
  refine fineV _ _ (t2 := t1) (t3 := kr) (by kwd_inv) (by kwd_inv) (by kwd_inv) ?_
  refine exE1 S.sign fun ts msg => ?_
  refine exE1 S.size fun tz msz => ?_
  refine exE1 S.width fun tw mwd => ?_
  have mcm := S.came
  have mdt := S.dots
  have hm4 : ∃ m4, upd (upd (upd (upd m (Str.ofString "divisor") (.int d t1)) (Str.ofString "quotient") (.int q kq)) (Str.ofString "rest") (.int r kr)) (Str.ofString "fine") (.bool true) = m4 ∧ m4 (Str.ofString "divisor") = some (.int d t1) ∧ m4 (Str.ofString "quotient") = some (.int q kq) ∧ m4 (Str.ofString "rest") = some (.int r kr) ∧ m4 (Str.ofString "fine") = some (.bool true) ∧
      m4 (Str.ofString "number") = some (.int num tn) ∧ m4 (Str.ofString "again") = some (.int (0 + (j : Int)) ta) ∧ m4 (Str.ofString "count") = some (.int c tc) ∧ m4 (Str.ofString "sign") = some (.int sg ts) ∧ m4 (Str.ofString "size") = some (.int n tz) ∧ m4 (Str.ofString "width") = some (.int wd tw) ∧ m4 (Str.ofString "came") = some (.ref cl) ∧ m4 (Str.ofString "dots") = some (.ref dl) :=
    ⟨_, rfl, by kwd_inv, by kwd_inv, by kwd_inv, by kwd_inv, by kwd_inv, by kwd_inv, by kwd_inv, by kwd_inv, by kwd_inv, by kwd_inv, by kwd_inv, by kwd_inv⟩
  refine exE1 hm4 fun m4 h_0 => anE13 h_0 fun em4 b1 b2 b3 b4 b5 b6 b7 b8 b9 b10 b11 b12 => ?_
  clear h_0 hm4
  refine (Eq.symm em4) ▸ ?_
  refine ex_if ?_
  refine t_or (t_or_cons ?_)
  refine t_not (t_name ?_)
  refine e_local ks_law k_law_fine b4 (truthy_b ?_)
  show WB _ _ _ _ _ _ _ (allTrue .Or _ _) _
  refine t_or_one ?_
  refine t_cmp ?_
  refine e_callf G ks_law k_law_add (f := 79) (i := 10) (by decide) rfl ?_
  refine args_cons ?_
  refine e_callf G ks_law k_law_mul (f := 86) (i := 11) (by decide) rfl ?_
  refine args_cons (e_local ks_law k_law_quotient b2 ?_)
  refine args_cons (e_local ks_law k_law_divisor b1 ?_)
  refine args_nil ?_
  refine WB.callI (z := (q * d)) G (fun s' O' at' => f_mul O' (Rd.le (by omega)) (mul_ok hqb hdb (by omega))) fun t3 new3 => ?_
  refine args_cons (e_local ks_law k_law_rest b3 ?_)
  refine args_nil ?_
  refine WB.callI (z := (q * d + r)) G (fun s' O' at' => f_add O' (Rd.le (by omega))) fun t4 new4 => ?_
  refine e_local ks_law k_law_number b5 ?_
  rw [df.1]
  refine i_ne (truthy_b ?_)
  rw [bne_self_eq_false]
  show WB _ _ _ _ _ _ _ (execs (_ :: _ :: _ :: _ :: _ :: []) _) _
  have hrb : intBits r ≤ 2 ^ 16 := by
    have : (2 : Nat) ^ 16 = 65536 := by decide
    have hr2 : intBits r ≤ 4424 := by
      have hdn := intBits_le_iff.mp hdb
      refine intBits_le_iff.mpr (Nat.lt_of_le_of_lt ?_ hdn)
      cases neg with
      | true => rw [if_pos rfl] at hsgn; have := df.2.1 hsgn; omega
      | false => rw [if_neg (by decide)] at hsgn; have := df.2.2.1 hsgn; omega
    omega
  refine ex_if ?_
  refine t_cmp ?_
  refine e_callf G ks_law k_law_int_divmod (f := 72) (i := 8) (by decide) rfl ?_
  refine args_cons (e_local ks_law k_law_rest b3 ?_)
  refine args_cons (e_local ks_law k_law_divisor b1 ?_)
  refine args_nil ?_
  refine WB.callDF (a := r) (b := d) G (fun s' O' at' => int_divmod O' (Rd.le (by omega)) dt0 hrb (by have : (2 : Nat) ^ 14 = 16384 := by decide
                                                                                                      omega)) fun r5 k5 k6 new5 hm5 _ => ?_
  rw [df.2.2.2.1, df.2.2.2.2] at hm5
  refine e_tuple rfl ?_
  refine args_cons (e_int fun tz0 => ?_)
  refine args_cons (e_local ks_law k_law_rest b3 ?_)
  refine args_nil ⟨by simp, fun r6 fr6 => ?_⟩
  refine ne_tup2 (Rd.le (by omega)) (.inr (.tail _ (List.mem_append_left _ hm5))) (.inr (.head _)) (truthy_b ?_)
  refine (Eq.symm (show (!((0 : Int) == 0 && r == r)) = false by simp)) ▸ ?_
  show WB _ _ _ _ _ _ _ (execs (_ :: _ :: _ :: _ :: []) _) _
  have hco := S.co
  refine exE2 hco fun co cv h_0 => anE3 h_0 fun hcm1 hcX hcI => ?_
  clear h_0 hco
  refine exE2 S.dat fun dob dvs h_0 => anE3 h_0 fun hdm hdX hdI => ?_
  clear h_0
  refine ex_if ?_
  refine t_cmp ?_
  refine e_local ks_law k_law_rest b3 ?_
  refine e_int fun _ => ?_
  refine i_ne (truthy_b ?_)
  by_cases hcx : c ∈ xs
  · refine anE2 (dt1 hcx) fun q1 q2 => ?_
    refine (Eq.symm (show (r != 0) = false by rw [q2]; rfl)) ▸ ?_
    show WB _ _ _ _ _ _ _ (execs (_ :: _ :: _ :: []) _) _
    refine ex_assignL ks_law k_law_number (e_local ks_law k_law_quotient b2 ?_)
    refine ex_expr ?_
    refine e_meth attrBase_name rfl rfl ?_
    refine e_local ks_law k_law_came (v := .ref cl) (by kwd_inv) ?_
    intro plx
    have hcmN : (cl, co) ∈ (r6, tupObj [.int 0 tz0, .int r kr]) :: (new5 ++ (new4 ++ (new3 ++ (new2 ++ (new1 ++ N))))) := by simp [hcm1]
    refine g_lst slot_list_append type_list_append (.inr hcmN) hcX ?_
    refine call_b1 rfl ?_
    refine args_cons (e_local ks_law k_law_count (v := .int c tc) (by kwd_inv) ?_)
    refine args_nil ?_
    have hcvl := hcI.length
    refine c_append hcmN hcX (by omega) fun co' N6 hX' hH hm' => ?_
    refine ex_assignL ks_law k_law_sign ?_
    have signV : ∀ {Q : Value → Loc → Led → Prop} (m1 : Loc) (N1 : Led), m1 (Str.ofString "again") = some (.int (0 + (j : Int)) ta) → m1 (Str.ofString "sign") = some (.int sg ts) → (∀ t, Q (.int (if neg then -sg else sg) t) m1 N1) →
        WB g0 A (fun _ _ => False) h₀ L m1 N1 (eval (asgVal (innerBody.getD 8 (.Pass default))) (envX cn (scopeOf 31) L a0 ccd cl0)) Q := by
      intro Q m1 N1 ha hs hQ
      show WB _ _ _ _ _ _ _ (eval (.IfExp _ _ _ _) _) _
      refine e_ifexp ?_
      refine t_cmp ?_
      refine e_bin ?_
      refine e_local ks_law k_law_again ha ?_
      refine e_int fun _ => ?_
      refine i_mod (by decide) fun _ => ?_
      refine e_int fun _ => ?_
      refine i_eq (truthy_b ?_)
      have hj : ((0 + (j : Int)).fmod 2 == 0) = neg := by
        rw [fmod_pos (by decide), hneg]
        by_cases h : j % 2 = 0
        · rw [decide_eq_true h]; simp; omega
        · rw [decide_eq_false h]; simp; omega
      refine (Eq.symm hj) ▸ ?_
      cases neg with
      | true =>
        rw [if_pos rfl] at hQ ⊢
        exact e_un (e_local ks_law k_law_sign hs (i_neg hQ))
      | false =>
        rw [if_neg (by decide)] at hQ ⊢
        exact e_local ks_law k_law_sign hs (hQ ts)
    refine signV _ _ (by kwd_inv) (by kwd_inv) fun t9 => ?_
    refine ex_nil (.inl ⟨rfl, hcx, ⟨⟨kq, ?_⟩, by kwd_inv, ⟨t9, by kwd_inv⟩, ⟨tz, by kwd_inv⟩, ⟨tw, by kwd_inv⟩, by kwd_inv, ⟨co', _, hm', hX', hcI.append Ints.nil.cons⟩, ⟨dob, dvs, (hH _ (by simp [hdm])).resolve_left fun e => hne (Prod.mk.inj e).1, hdX, hdI⟩⟩, ⟨tc, by kwd_inv⟩, ⟨t1, by kwd_inv⟩⟩)
    refine q1 ▸ ?_
    kwd_inv
  · have hr0 := dt2 hcx
    refine if_t1 (show (r != 0) = true by simpa using hr0) ?_
    show WB _ _ _ _ _ _ _ (execs (.Break _ :: _) _) _
    refine ex_break (.inr ⟨rfl, hcx, ⟨⟨tn, by rw [hnum]; exact b5⟩, b11, ⟨ts, b8⟩, ⟨tz, b9⟩, ⟨tw, b10⟩, b12, ⟨co, cv, by simp [hcm1], hcX, hcI⟩, ⟨dob, dvs, by simp [hdm], hdX, hdI⟩⟩⟩)
end hinner_turn
theorem inner_turn {g0 mg mb A h₀ L m N cn a0 ccd cl0 n wd j c ds cm xs sg dl cl ta tc td} : hinner_turn.st_ g0 mg mb A h₀ L m N cn a0 ccd cl0 n wd j c ds cm xs sg dl cl ta tc td := Mine.hk hinner_turn.ne_ (P := hinner_turn.Q_) hinner_turn.main_ ((((g0, (mg, mb)), (A, (h₀, L))), ((m, (N, cn)), (a0, (ccd, cl0)))), (((n, (wd, j)), (c, (ds, cm))), ((xs, (sg, dl)), ((cl, ta), (tc, td)))))
section
variable {prog : Program} {w : World} {g0 : Cx} {mg mb : Loc} {A : Around} {E : Value → Shared → Prop} {s : Shared} {h₀ : Heap} {L : Addr} {m : Loc} {N : Led}
end
end Mine

end

section
open PySem PySem.W PyProof.Rows
namespace Mine
open PySem.Spec
open Builtin.Int (intBits)
theorem keepsS {m : Loc} {x : String} {v : Value} (hx : x ∉ ["number", "came", "sign", "size", "width", "dots"]) : ∀ y ∈ ["number", "came", "sign", "size", "width", "dots"], upd m (Str.ofString x) v (Str.ofString y) = m (Str.ofString y) := fun y hy => by
  rw [upd_get, if_neg (fun e => hx (by rw [← ofString_inj.mp e]; exact hy))]
section
variable {prog : Program} {w : World} {g0 : Cx} {mg mb : Loc} {A : Around} {E : Value → Shared → Prop} {s : Shared} {h₀ : Heap} {L : Addr} {m : Loc} {N : Led}
structure DivJ (n wd : Nat) (ds : List Int) (dl cl : Addr) (i : Int) (cm xs : List Int) (sg : Int) (m : Loc) (N : Led) : Prop where
  st : DivS n wd ds cm xs sg dl cl m N
  perm : (cm ++ xs).Perm ds
  up : cm.Pairwise (· ≤ ·)
  lo : ∀ x ∈ cm, x ≤ i
  hi : ∀ x ∈ xs, i + 1 ≤ x
  sg : sg = 1 ∨ sg = -1
theorem DivJ.bd {n wd : Nat} {ds : List Int} {dl cl : Addr} {i : Int} {cm xs : List Int} {sg : Int} {m : Loc} {N : Led} (x : DivJ n wd ds dl cl i cm xs sg m N) (hds : ∀ d ∈ ds, 1 ≤ d ∧ d ≤ 6) (hl : ds.length ≤ 6) : (∀ x ∈ xs, 1 ≤ x ∧ x ≤ 6) ∧ xs.length ≤ 6 ∧ cm.length ≤ 6 := by
  have h1 := x.perm.length_eq
  rw [List.length_append] at h1
  exact ⟨fun y hy => hds y (x.perm.mem_iff.mp (List.mem_append_right _ hy)), by omega, by omega⟩
end
namespace hlast_loop
noncomputable def st_ (g0 : Mine.Cx) (mg mb : Mine.Loc) (A : PySem.Around) (h₀ : PySem.Heap) (L : PySem.Addr) (m : Mine.Loc) (N : Mine.Led) (cn : PySem.Str) (a0 : PySem.Addr) (ccd : PySem.Value) (cl0 : List (PySem.Str × PySem.Addr)) (n wd : Nat) (ds : List Int) (dl cl : PySem.Addr) (rest : List PySem.Stmt) (Q : PySem.Flow → Mine.Loc → Mine.Led → Prop) : Prop := ∀ (G : Gd mg mb h₀) (Rd : Room A 30) (hw : 24 ≤ wd) (hw2 : wd ≤ 4423) (hn6 : n ≤ 6) (hdl : ds.length = n) (hds : ∀ d ∈ ds, 1 ≤ d ∧ d ≤ 6) (hne : dl ≠ cl) (S : DivS n wd ds [] ds 1 dl cl m N) (h : ∀ m' N' cm sg, DivS n wd ds cm [] sg dl cl m' N' → cm.Perm ds → cm.Pairwise (· ≤ ·) → WB g0 A (fun _ _ => False) h₀ L m' N' (execs rest (envX cn (scopeOf 31) L a0 ccd cl0)) Q), WB g0 A (fun _ _ => False) h₀ L m N (execs ((bodyOf 31).getD 18 (.Pass default) :: rest) (envX cn (scopeOf 31) L a0 ccd cl0)) Q
noncomputable abbrev T_ := ((((Mine.Cx × Mine.Loc) × (Mine.Loc × PySem.Around)) × ((PySem.Heap × PySem.Addr) × (Mine.Loc × (Mine.Led × PySem.Str)))) × (((PySem.Addr × PySem.Value) × ((List (PySem.Str × PySem.Addr)) × (Nat × Nat))) × (((List Int) × PySem.Addr) × (PySem.Addr × ((List PySem.Stmt) × (PySem.Flow → Mine.Loc → Mine.Led → Prop))))))
theorem ne_ : Nonempty T_ := ⟨by repeat' (first | apply Prod.mk | exact default | exact nAr | exact nCx | exact nSh | constructor)⟩
noncomputable def Q_ (p : T_) : Prop := st_ p.1.1.1.1 p.1.1.1.2 p.1.1.2.1 p.1.1.2.2 p.1.2.1.1 p.1.2.1.2 p.1.2.2.1 p.1.2.2.2.1 p.1.2.2.2.2 p.2.1.1.1 p.2.1.1.2 p.2.1.2.1 p.2.1.2.2.1 p.2.1.2.2.2 p.2.2.1.1 p.2.2.1.2 p.2.2.2.1 p.2.2.2.2.1 p.2.2.2.2.2
noncomputable def w_ : T_ := @Classical.epsilon _ ne_ fun p => ¬ Q_ p
noncomputable def m := w_.1.2.2.1
noncomputable def n := w_.2.1.2.2.1
noncomputable def wd := w_.2.1.2.2.2
noncomputable def ds := w_.2.2.1.1
noncomputable def dl := w_.2.2.1.2
noncomputable def cl := w_.2.2.2.1
set_option maxHeartbeats 2000000 in
theorem main_ : st_ w_.1.1.1.1 w_.1.1.1.2 w_.1.1.2.1 w_.1.1.2.2 w_.1.2.1.1 w_.1.2.1.2 m w_.1.2.2.2.1 w_.1.2.2.2.2 w_.2.1.1.1 w_.2.1.1.2 w_.2.1.2.1 n wd ds dl cl w_.2.2.2.2.1 w_.2.2.2.2.2 := by
  intro G Rd hw hw2 hn6 hdl hds hne S h
  show WB _ _ _ _ _ _ _ (execs (.For (.Name _ _) _ outerBody [] _ :: _) _) _
  refine ex_forN 1 6 (fun i m' N' => ∃ cm xs sg, DivJ n wd ds dl cl i cm xs sg m' N') Rd.handled ks_law k_law_count (by decide) (by decide) ?_ ?_ ?_
  · refine e_callt G ks_law k_law_range (id := "range") (by decide) rfl ?_
    refine args_cons (e_int fun _ => args_cons (e_int fun _ => args_nil ?_))
    refine c_range2 fun r t1 u1 v1 _ => rngI r _ t1 u1 v1 (.inr (.head _)) (by decide) (by decide) (exI3 ([]) ds 1 ⟨S.grow (fun _ _ => rfl) (fun p hp => .tail _ hp), .refl _, .nil, (fun x hx => nomatch hx), fun x hx => ?_, .inl rfl⟩)
    have := (hds x hx).1
    show ((0 : Nat) : Int) + 1 ≤ x
    omega
  · intro i m1 N1 tc hi e_1
    refine exE3 e_1 fun cm xs sg J => ?_
    clear e_1
    have P1 := J.st.grow (keepsS (m := m1) (x := "count") (v := .int (1 + i) tc) (by decide)) fun p hp => hp
    have mc : upd m1 (Str.ofString "count") (.int (1 + i) tc) (Str.ofString "count") = some (.int (1 + i) tc) := by kwd_inv
    generalize upd m1 (Str.ofString "count") (.int (1 + i) tc) = m2 at *
    show WB _ _ _ _ _ _ _ (execs (_ :: .For (.Name _ _) _ innerBody [] _ :: []) _) _
    refine exE1 P1.width fun tw mw => ?_
    refine ex_assignL ks_law k_law_divisor ?_
    refine e_callf G ks_law k_law_add (f := 79) (i := 10) (by decide) rfl ?_
    refine args_cons ?_
    refine e_bin (e_int fun _ => ?_)
    refine e_local ks_law k_law_width mw ?_
    refine i_shl (by omega) (by rw [bits1, p27]; omega) fun _ => ?_
    rw [Int.one_mul, Int.toNat_natCast]
    refine args_cons (e_local ks_law k_law_count mc ?_)
    refine args_nil ?_
    refine WB.callI (z := (2 ^ wd + (1 + (i : Int)))) G (fun s' O' at' => f_add O' (Rd.le (by omega))) fun t3 new => ?_
    have P2 := P1.grow (keepsS (m := m2) (x := "divisor") (v := .int (2 ^ wd + (1 + (i : Int))) t3) (by decide)) (fun p (hp : p ∈ N1) => List.mem_append_right new hp)
    have mc2 : upd m2 (Str.ofString "divisor") (.int (2 ^ wd + (1 + (i : Int))) t3) (Str.ofString "count") = some (.int (1 + i) tc) := by kwd_inv
    have md2 : upd m2 (Str.ofString "divisor") (.int (2 ^ wd + (1 + (i : Int))) t3) (Str.ofString "divisor") = some (.int (2 ^ wd + (1 + (i : Int))) t3) := by kwd_inv
    generalize upd m2 (Str.ofString "divisor") (.int (2 ^ wd + (1 + (i : Int))) t3) = m3 at *
    have hcc : 1 ≤ 1 + (i : Int) ∧ 1 + (i : Int) ≤ 6 := by omega
    refine ex_forN 0 n (fun j m' N' => ∃ cm xs sg, DivS n wd ds cm xs sg dl cl m' N' ∧ (cm ++ xs).Perm ds ∧ cm.Pairwise (· ≤ ·) ∧ (∀ x ∈ cm, x ≤ 1 + (i : Int)) ∧ (∀ x ∈ xs, 1 + (i : Int) ≤ x) ∧ (sg = 1 ∨ sg = -1) ∧ xs.length + j ≤ n ∧ (∃ t, m' (Str.ofString "count") = some (.int (1 + i) t)) ∧ ∃ t, m' (Str.ofString "divisor") = some (.int (if j % 2 = 0 then 2 ^ wd + (1 + (i : Int)) else -(2 ^ wd + (1 + (i : Int)))) t)) Rd.handled ks_law k_law_again (by decide) (by omega) ?_ ?_ ?_
    · refine e_callt G ks_law k_law_range (id := "range") (by decide) rfl ?_
      refine exE1 P2.size fun tz mz => ?_
      refine args_cons (e_local ks_law k_law_size mz ?_)
      refine args_nil ?_
      have hxl : xs.length ≤ n := by
        have := J.perm.length_eq
        rw [List.length_append] at this; omega
      refine c_range1 fun r t1 u1 v1 _ => rngI r _ t1 u1 v1 (.inr (.head _)) (by omega) (by omega) (exI3 cm xs sg ⟨P2.grow (fun _ _ => rfl) (fun p hp => .tail _ hp), J.perm, J.up, fun x hx => by have := J.lo x hx; omega, fun x hx => by have := J.hi x hx; omega, J.sg, by omega, ⟨_, mc2⟩, ⟨_, md2⟩⟩)
    · intro j m4 N4 ta hj e_3
      refine via fun ξ κ=>?_
      obtain ⟨cm, xs, sg, S4, hp, hup, hlo, hhi, hsg, hlen, ⟨tc4, mc4⟩, ⟨td4, md4⟩⟩ := e_3
      refine κ ?_;clear κ ξ
      have S5 := S4.grow (keepsS (m := m4) (x := "again") (v := .int (0 + j) ta) (by decide)) fun p hp => hp
      have hpl := hp.length_eq
      rw [List.length_append] at hpl
      refine (inner_turn (ta := ta) (tc := tc4) (td := td4) G Rd hw hw2 hsg (fun x hx => hds x (hp.mem_iff.mp (List.mem_append_right _ hx))) (by omega) (by omega) hcc hne S5 (by kwd_inv) (by kwd_inv) (by kwd_inv)).mono fun f m5 N5 q => ?_
      rcases q with ⟨rfl, hcx, S6, mc6, md6⟩ | ⟨rfl, hcx, S6⟩
      · refine ⟨cm ++ [1 + (i : Int)], xs.erase (1 + i), _, S6, ?_, ?_, ?_, fun x hx => hhi x (List.mem_of_mem_erase hx), ?_, ?_, mc6, md6⟩
        · rw [List.append_assoc]
          exact (List.Perm.append_left _ (List.perm_cons_erase hcx).symm).trans hp
        · refine List.pairwise_append.mpr ⟨hup, List.pairwise_singleton _ _, fun a ha b hb => ?_⟩
          rw [List.mem_singleton.mp hb]; exact hlo a ha
        · intro x hx
          rcases List.mem_append.mp hx with hx | hx
          · exact hlo x hx
          · rw [List.mem_singleton.mp hx]; exact Int.le_refl _
        · split <;> omega
        · refine (Eq.symm (List.length_erase_of_mem hcx)) ▸ ?_
          have : 0 < xs.length := List.length_pos_of_mem hcx
          omega
      · refine ex_nil (exI3 cm xs sg ⟨S6, hp, hup, fun x hx => by have := hlo x hx; push_cast; omega, fun x hx => ?_, hsg⟩)
        have h1 := hhi x hx
        have h2 : x ≠ 1 + (i : Int) := fun e => hcx (e ▸ hx)
        push_cast; omega
    · intro m4 N4 e_4
      refine exE3 e_4 fun cm xs sg h_0 => anE9 h_0 fun S4 hp hup hlo hhi hsg hlen _ _ => ?_
      clear h_0 e_4
      have hx0 : xs = [] := List.length_eq_zero_iff.mp (by omega)
      subst hx0
      exact ex_nil (exI3 cm ([]) sg ⟨S4, hp, hup, fun x hx => by have := hlo x hx; push_cast; omega, fun x hx => (nomatch hx), hsg⟩)
  · intro m1 N1 e_5
    refine exE3 e_5 fun cm xs sg J => ?_
    clear e_5
    have hx0 : xs = [] := by
      cases xs with
      | nil => rfl
      | cons x r =>
        have h1 := J.hi x (.head _)
        have h2 := (hds x (J.perm.mem_iff.mp (List.mem_append_right _ (.head _)))).2
        have h3 : ((6 : Nat) : Int) + 1 ≤ x := h1
        omega
    subst hx0
    have hp := J.perm
    rw [List.append_nil] at hp
    exact h m1 N1 cm sg J.st hp J.up
end hlast_loop
theorem last_loop {g0 mg mb A h₀ L m N cn a0 ccd cl0 n wd ds dl cl rest Q} : hlast_loop.st_ g0 mg mb A h₀ L m N cn a0 ccd cl0 n wd ds dl cl rest Q := Mine.hk hlast_loop.ne_ (P := hlast_loop.Q_) hlast_loop.main_ ((((g0, mg), (mb, A)), ((h₀, L), (m, (N, cn)))), (((a0, ccd), (cl0, (n, wd))), ((ds, dl), (cl, (rest, Q)))))
section
variable {prog : Program} {w : World} {g0 : Cx} {mg mb : Loc} {A : Around} {E : Value → Shared → Prop} {s : Shared} {h₀ : Heap} {L : Addr} {m : Loc} {N : Led}
end
end Mine

end

section
open PySem PySem.W PyProof.Rows
namespace Mine
open PySem.Spec
open Builtin.Int (intBits)
section
variable {prog : Program} {w : World} {g0 : Cx} {mg mb : Loc} {A : Around} {E : Value → Shared → Prop} {s : Shared} {h₀ : Heap} {L : Addr} {m : Loc} {N : Led}
theorem parts_ne {n : Nat} (h3 : 3 ≤ n) (h6 : n ≤ 6) (h4 : n ≠ 4) : ∀ i, i < n → 2 * (n : Int) - 2 ^ (i + 1) ≠ 0 := by
  have : n = 3 ∨ n = 5 ∨ n = 6 := by omega
  rcases this with rfl | rfl | rfl
  · intro i hi
    have : i = 0 ∨ i = 1 ∨ i = 2 := by omega
    rcases this with rfl | rfl | rfl <;> decide
  · intro i hi
    have : i = 0 ∨ i = 1 ∨ i = 2 ∨ i = 3 ∨ i = 4 := by omega
    rcases this with rfl | rfl | rfl | rfl | rfl <;> decide
  · intro i hi
    have : i = 0 ∨ i = 1 ∨ i = 2 ∨ i = 3 ∨ i = 4 ∨ i = 5 := by omega
    rcases this with rfl | rfl | rfl | rfl | rfl | rfl <;> decide
end
namespace hlaw_rest
noncomputable def st_ (g0 : Mine.Cx) (mg mb : Mine.Loc) (A : PySem.Around) (h₀ : PySem.Heap) (L : PySem.Addr) (m : Mine.Loc) (N : Mine.Led) (cn : PySem.Str) (a0 : PySem.Addr) (ccd : PySem.Value) (n wd : Nat) (tot near : Int) (mk : Nat) (ds : List Int) (ps : List (List Nat × PySem.Tok)) (dl pl lc : PySem.Addr) : Prop := ∀ (G : Gd mg mb h₀) (Rd : Room A 40) (hn4 : n ≠ 4) (P : LawP n wd near mk ds ps) (S : LawS h₀ n wd tot near mk ds ps dl pl lc m N), WB g0 A (fun _ _ => False) h₀ L m N (execs ((bodyOf 31).drop 10) (envX cn (scopeOf 31) L a0 ccd [(Str.ofString "half", lc)])) fun f _ _ => f = .ret (.bool true)
noncomputable abbrev T_ := ((((Mine.Cx × Mine.Loc) × (Mine.Loc × (PySem.Around × PySem.Heap))) × ((PySem.Addr × Mine.Loc) × (Mine.Led × (PySem.Str × PySem.Addr)))) × (((PySem.Value × Nat) × (Nat × (Int × Int))) × ((Nat × ((List Int) × (List (List Nat × PySem.Tok)))) × (PySem.Addr × (PySem.Addr × PySem.Addr)))))
theorem ne_ : Nonempty T_ := ⟨by repeat' (first | apply Prod.mk | exact default | exact nAr | exact nCx | exact nSh | constructor)⟩
noncomputable def Q_ (p : T_) : Prop := st_ p.1.1.1.1 p.1.1.1.2 p.1.1.2.1 p.1.1.2.2.1 p.1.1.2.2.2 p.1.2.1.1 p.1.2.1.2 p.1.2.2.1 p.1.2.2.2.1 p.1.2.2.2.2 p.2.1.1.1 p.2.1.1.2 p.2.1.2.1 p.2.1.2.2.1 p.2.1.2.2.2 p.2.2.1.1 p.2.2.1.2.1 p.2.2.1.2.2 p.2.2.2.1 p.2.2.2.2.1 p.2.2.2.2.2
noncomputable def w_ : T_ := @Classical.epsilon _ ne_ fun p => ¬ Q_ p
noncomputable def m := w_.1.2.1.2
noncomputable def n := w_.2.1.1.2
noncomputable def wd := w_.2.1.2.1
noncomputable def near := w_.2.1.2.2.2
noncomputable def ds := w_.2.2.1.2.1
noncomputable def ps := w_.2.2.1.2.2
noncomputable def dl := w_.2.2.2.1
set_option maxHeartbeats 2000000 in
theorem main_ : st_ w_.1.1.1.1 w_.1.1.1.2 w_.1.1.2.1 w_.1.1.2.2.1 w_.1.1.2.2.2 w_.1.2.1.1 m w_.1.2.2.1 w_.1.2.2.2.1 w_.1.2.2.2.2 w_.2.1.1.1 n wd w_.2.1.2.2.1 near w_.2.2.1.1 ds ps dl w_.2.2.2.2.1 w_.2.2.2.2.2 := by
  intro G Rd hn4 P S
  refine via fun ξ κ=>?_
  obtain ⟨⟨t1, a1⟩, ⟨t2, a2⟩, ⟨t3, a3⟩, ⟨t4, a4⟩, ⟨t5, a5⟩, ⟨t6, a6⟩, a7, a8, ⟨dob, dvs, hdm, hdX, hdI⟩, ⟨po, hpm, hpX⟩, ⟨oc, hcm, hoc⟩⟩ := S
  refine κ ?_;clear κ ξ
  refine anE2 (row_len P) fun hps1 hps2 => ?_
  refine anE3 (sum_facts P) fun sf1 sf2 sf3 => ?_
  have hdl := P.dok.1
  have hd6 := P.dok.2.1 hn4
  have hn3 := P.n3
  have hn6 := P.n6
  show WB _ _ _ _ _ _ _ (execs (.Try _ (_ :: _) [] [] _ :: _ :: _ :: _ :: _ :: _ :: _ :: _ :: (bodyOf 31).getD 18 (.Pass default) :: _ :: []) _) _
  refine ex_try_ok (orelse := []) ?_
  show WB _ _ _ _ _ _ _ (execs (.Assign [.Name _ _] (.Call (.Name _ _) [sumsComp, _, _, _] [] _) _ :: []) _) _
  refine ex_assignL ks_law k_law_powers ?_
  refine e_callf G ks_law k_law__law_powers (f := 174) (i := 28) (by decide) rfl ?_
  refine args_cons ?_
  refine sums_comp G (Rd.le (by omega)) (.inr hpm) hpX (by omega) (fun q hq => (hps2 q hq).1) a8 fun D ys k T N' hI hN' => ?_
  refine args_cons (e_local ks_law k_law_size (v := .int n t1) (by kwd_inv) ?_)
  refine args_cons (e_local ks_law k_law_far (v := .int (2 ^ wd - 1) t4) (by kwd_inv) ?_)
  refine args_cons (e_local ks_law k_law_near (v := .int near t5) (by kwd_inv) ?_)
  refine args_nil ?_
  have e25 : (2 : Int) ^ 25 = 33554432 := by decide
  have e30 : (2 : Int) ^ 30 = 1073741824 := by decide
  have hPSb : ∀ i, i ≤ 6 → 0 ≤ PS ds i ∧ PS ds i ≤ 705894 := fun i hi => by
    have := PS_bd7 i hi ds (fun x hx => by have := hd6 x hx; omega)
    omega
  have hESb : ∀ i, 0 ≤ ES ds i ∧ ES ds i ≤ 117649 := fun i => by
    have h1 := ES_bd ds i (fun x hx => by have := hd6 x hx; omega)
    have h2 : (7 : Int) ^ ds.length ≤ 7 ^ 6 := by exact_mod_cast Nat.pow_le_pow_right (by decide) (show ds.length ≤ 6 by omega)
    have e : (7 : Int) ^ 6 = 117649 := by decide
    omega
  refine WB.callS G (fun s' O' at' => f_powers (p := PS ds) (n := n) (far := 2 ^ wd - 1) (near := near) (ss := ps.map fun q => cnt46 q.1) O' (Rd.le (by omega)) (at' _ _ (.inr (.head _))) (LP.of ys k).lo hI sf2 sf3 hn6 (by rw [PS_zero, hdl]) (fun i hi => by have := hPSb i (by omega); omega) (fun i hi => by
    rw [sumP_perm _ sf1, ← hdl]
    exact straus ds i (by omega)) (parts_ne hn3 hn6 hn4) (far_lt P.w44) P.near0 P.nearf) fun v new hv _ => ?_
  refine exE3 hv fun wl wo ws h_0 => anE4 h_0 fun e_1 hwm hwX hwI => ?_
  clear h_0 hv
  subst e_1
  have hwn := hwI.length
  refine ex_nil ⟨rfl, ?_⟩
  have g : ∀ x : String, x ≠ "" → x ≠ "powers" → ∀ v, m (Str.ofString x) = some v → upd (setF m T) (Str.ofString "powers") (.ref wl) (Str.ofString x) = some v := fun x hx hx2 v hv => by
    rw [upd_get, if_neg (fun e => hx2 (ofString_inj.mp e)), setF_str, if_neg hx]; exact hv
  have gp : upd (setF m T) (Str.ofString "powers") (.ref wl) (Str.ofString "powers") = some (.ref wl) := by kwd_inv
  generalize upd (setF m T) (Str.ofString "powers") (.ref wl) = m2 at *
  have hdm2 : (dl, dob) ∈ new ++ (D, lstObj ys k) :: N' := by simp [hN' _ hdm]
  have hwm2 : (wl, wo) ∈ new ++ (D, lstObj ys k) :: N' := by simp [hwm]
  generalize new ++ (D, lstObj ys k) :: N' = N2 at *
  refine ex_if ?_
  refine t_cmp ?_
  refine e_local ks_law k_law_size (g "size" (by decide) (by decide) _ a1) ?_
  refine e_int fun _ => ?_
  refine i_eq (truthy_b ?_)
  rw [show ((n : Int) == 4) = false by simp; omega]
  show WB _ _ _ _ _ _ _ (execs (_ :: _ :: _ :: _ :: _ :: _ :: (bodyOf 31).getD 18 (.Pass default) :: _ :: []) _) _
  refine ex_if ?_
  refine t_or (t_or_cons ?_)
  refine t_cmp ?_
  refine e_local ks_law k_law_powers gp ?_
  refine e_none (is_none (truthy_b ?_))
  show WB _ _ _ _ _ _ _ (allTrue .Or _ _) _
  refine t_or_one ?_
  refine t_cmp ?_
  refine e_local ks_law k_law_powers gp ?_
  refine e_list rfl (args_nil ⟨by simp, fun z0 fz0 => ?_⟩)
  refine li_eq (Rd.le (by omega)) (.inr (.tail _ hwm2)) hwX (.inr (.head _)) ⟨0, rfl⟩ hwI Ints.nil (truthy_b ?_)
  rw [show ((List.range (n + 1)).map (PS ds) == []) = false by simp]
  show WB _ _ _ _ _ _ _ (execs (_ :: _ :: _ :: _ :: _ :: (bodyOf 31).getD 18 (.Pass default) :: _ :: []) _) _
  refine ex_assignL ks_law k_law_products ?_
  refine e_callf G ks_law k_law__law_products (f := 181) (i := 29) (by decide) rfl ?_
  refine args_cons (e_local ks_law k_law_powers gp ?_)
  refine args_cons (e_local ks_law k_law_far (g "far" (by decide) (by decide) _ a4) ?_)
  refine args_cons (e_local ks_law k_law_near (g "near" (by decide) (by decide) _ a5) ?_)
  refine args_nil ?_
  refine WB.callS G (fun s' O' at' => f_products (p := PS ds) (e := ES ds) (n := n + 1) (far := 2 ^ wd - 1) (near := near) O' (Rd.le (by omega)) (at' _ _ (.inr (.tail _ hwm2))) hwX.lo hwI (by omega) (by omega) (ES_zero ds) (fun k _ _ => newton ds k) (fun i hi => by have := hPSb i (by omega); have := hESb i; omega) (far_lt P.w44) P.near0 P.nearf) fun v new2 hv _ => ?_
  refine exE3 hv fun ql qo qs h_0 => anE4 h_0 fun e_2 hqm hqX hqI => ?_
  clear h_0 hv
  subst e_2
  have hqn := hqI.length
  have a3' := g "width" (by decide) (by decide) _ a3
  have a1' := g "size" (by decide) (by decide) _ a1
  have a7' := g "dots" (by decide) (by decide) _ a7
  have gq : upd m2 (Str.ofString "products") (.ref ql) (Str.ofString "products") = some (.ref ql) := by kwd_inv
  have b3 : upd m2 (Str.ofString "products") (.ref ql) (Str.ofString "width") = some (.int wd t3) := by kwd_inv
  have b1 : upd m2 (Str.ofString "products") (.ref ql) (Str.ofString "size") = some (.int n t1) := by kwd_inv
  have b7 : upd m2 (Str.ofString "products") (.ref ql) (Str.ofString "dots") = some (.ref dl) := by kwd_inv
  generalize upd m2 (Str.ofString "products") (.ref ql) = m3 at *
  refine ex_if ?_
  refine t_cmp ?_
  refine e_local ks_law k_law_products gq ?_
  refine e_list rfl (args_nil ⟨by simp, fun z1 fz1 => ?_⟩)
  refine li_eq (Rd.le (by omega)) (.inr (.tail _ (List.mem_append_left _ hqm))) hqX (.inr (.head _)) ⟨0, rfl⟩ hqI Ints.nil (truthy_b ?_)
  rw [show ((List.range (n + 1)).map (ES ds) == []) = false by simp]
  show WB _ _ _ _ _ _ _ (execs (_ :: _ :: _ :: (bodyOf 31).getD 18 (.Pass default) :: _ :: []) _) _
  refine ex_assignL ks_law k_law_number ?_
  refine e_callf G ks_law k_law__digits2int (f := 58) (i := 6) (by decide) rfl ?_
  refine args_cons ?_
  refine e_slice ?_ (fun _ _ => .inl rfl)
  refine e_local ks_law k_law_products gq ?_
  simp only [evalPart_some, evalPart_none]
  refine WB.pure (WB.pure ?_)
  refine e_un (e_int fun _ => i_neg fun tm1 => ?_)
  refine slcI ql qo qs none none (some (-1)) (.inr (.tail _ (List.mem_append_left _ hqm))) hqX.lo (by rw [hqn]; simp; omega) .none .none (.int _ _) (by decide) (fun sx sa sxo fsa => ?_)
  rw [slicePick_rev]
  refine args_cons (e_local ks_law k_law_width b3 ?_)
  refine args_nil ?_
  have hX24 : (2 : Int) ^ 24 ≤ 2 ^ wd := by exact_mod_cast Nat.pow_le_pow_right (by decide) P.w24
  have e24 : (2 : Int) ^ 24 = 16777216 := by decide
  refine WB.callS G (fun s' O' at' => digits2int (n := wd) O' (Rd.le (by omega)) (at' _ _ (.inr (.head _))) (LP.of qs.reverse 0).lo hqI.reverse (by have := P.w24; omega) (fun d hd => ?_) ?_) fun v new3 hv _ => ?_
  · rw [List.mem_reverse] at hd
    refine exE1 (List.mem_map.mp hd) fun i h_0 => anE2 h_0 fun _ e_3 => ?_
    clear h_0
    subst e_3
    have := hESb i
    omega
  · have h1 : (List.map (ES ds) (List.range (n + 1))).reverse.length = n + 1 := by simp
    rw [h1]
    have h2 : wd * (n + 1) ≤ 4423 * 7 := Nat.mul_le_mul P.w44 (by omega)
    have : (2 : Nat) ^ 20 = 1048576 := by decide
    omega
  refine exE1 hv fun tnum e_4 => ?_
  clear hv
  subst e_4
  have hnum : undig wd ((List.range (n + 1)).map (ES ds)).reverse = 1 * prodX (2 ^ wd) ds := by
    rw [undig_poly, prod_poly, hdl, Int.one_mul]
  rw [hnum]
  refine ex_assignL ks_law k_law_came ?_
  refine e_list rfl (args_nil ⟨by simp, fun cl fcl => ?_⟩)
  refine ex_assignL ks_law k_law_sign (e_int fun tsg => ?_)
  have hdmN : (dl, dob) ∈ new3 ++ (sa, lstObj qs.reverse) :: (sx, sxo) :: (z1, lstObj []) :: (new2 ++ (z0, lstObj []) :: N2) := by simp [hdm2]
  have hne : dl ≠ cl := Nat.ne_of_lt (fcl.gt _ hdmN)
  refine last_loop (cl := cl) (dl := dl) G (Rd.le (by omega)) P.w24 P.w44 hn6 hdl hd6 hne ⟨⟨tnum, by kwd_inv⟩, by kwd_inv, ⟨tsg, by kwd_inv⟩, ⟨t1, by kwd_inv⟩, ⟨t3, by kwd_inv⟩, by kwd_inv, ⟨_, [], .head _, ⟨0, rfl⟩, Ints.nil⟩, ⟨dob, dvs, .tail _ hdmN, hdX, hdI⟩⟩ fun m9 N9 cm sg S9 hperm hup => ?_
  refine exE1 S9.number fun tn9 c1 => ?_
  refine exE1 S9.sign fun ts9 c2 => ?_
  refine exE2 S9.co fun co cv h_0 => anE3 h_0 fun hco hcoX hcoI => ?_
  clear h_0
  refine exE2 S9.dat fun dob9 dvs9 h_0 => anE3 h_0 fun hd9 hdX9 hdI9 => ?_
  clear h_0
  refine ex_ret ?_
  refine e_and2 ?_
  refine e_cmp ?_
  refine e_local ks_law k_law_came S9.came ?_
  refine e_callb G ks_law k_law_sorted (id := "sorted") (by decide) rfl ?_
  refine args_cons (e_local ks_law k_law_dots S9.dots ?_)
  refine args_nil ?_
  have hdn9 := hdI9.length
  refine c_sortI (.inr hd9) hdX9.lo hdI9 (by omega) fun r ro rs ys2 fr hrX hrI hrp hrup => ?_
  refine li_eq (Rd.le (by omega)) (.inr (.tail _ hco)) hcoX (.inr (.head _)) hrX hcoI hrI (truthy_b ?_)
  have hsame : cm = ys2 := List.Perm.eq_of_pairwise (le := fun a b : Int => a ≤ b) (fun a b _ _ h1 h2 => Int.le_antisymm h1 h2) hup hrup (hperm.trans hrp.symm)
  rw [hsame, beq_self_eq_true, if_pos rfl]
  refine e_cmp ?_
  refine e_callf G ks_law k_law_neg (f := 93) (i := 12) (by decide) rfl ?_
  refine args_cons (e_local ks_law k_law_number c1 ?_)
  refine args_nil ?_
  refine WB.callK G (fun s' O' at' => f_neg O' (Rd.le (by omega))) fun t9 new9 => ?_
  refine e_un (e_local ks_law k_law_sign c2 (i_neg fun _ => ?_))
  refine i_eq ?_
  rw [show (-(sg * prodX (2 ^ wd) []) == -sg) = true by simp [prodX]]
end hlaw_rest
theorem law_rest {g0 mg mb A h₀ L m N cn a0 ccd n wd tot near mk ds ps dl pl lc} : hlaw_rest.st_ g0 mg mb A h₀ L m N cn a0 ccd n wd tot near mk ds ps dl pl lc := Mine.hk hlaw_rest.ne_ (P := hlaw_rest.Q_) hlaw_rest.main_ ((((g0, mg), (mb, (A, h₀))), ((L, m), (N, (cn, a0)))), (((ccd, n), (wd, (tot, near))), ((mk, (ds, ps)), (dl, (pl, lc)))))
section
variable {prog : Program} {w : World} {g0 : Cx} {mg mb : Loc} {A : Around} {E : Value → Shared → Prop} {s : Shared} {h₀ : Heap} {L : Addr} {m : Loc} {N : Led}
theorem law_body {cn : Str} {a0 : Addr} {ccd : Value} {sl lc : Addr} {so oc : Obj} {svs : List Value} {ss : List Int} (G : Gd mg mb h₀) (Rd : Room A 40) (hfr : A.frames = some [envX cn (scopeOf 31) L a0 ccd [(Str.ofString "half", lc)]]) (hsl : h₀.get? sl = some so) (hso : LO so svs) (hS : Ints svs ss) (hsn : svs.length ≤ 63)
    (ms : m (Str.ofString "script") = some (.ref sl)) (hc : (lc, oc) ∈ N) (hoc : oc.data = .cell none) :
    WB g0 A (fun _ _ => False) h₀ L m N (execs (bodyOf 31) (envX cn (scopeOf 31) L a0 ccd [(Str.ofString "half", lc)])) fun f _ _ => f = .ret (.bool true) := by
  refine law_head G Rd hsl hso hS hsn ms hc hoc fun n wd tot near mk ds ps dl pl m' N' P S => ?_
  by_cases h4 : n = 4
  · subst h4; exact law_four G Rd hfr P S
  · exact law_rest G Rd h4 P S
end
end Mine

end

section
open PySem PySem.W PyProof.Rows
set_option maxRecDepth 100000
set_option maxHeartbeats 4000000
namespace Mine
section
variable {M : Model} {A : Around} {E : Value → Shared → Prop} {s₀ s : Shared} {m cm : Str → Option Value} {env : Env}
theorem bind_one {f : Str × Value → PUnit → Sem (ForInStep PUnit)} {n : Str} {v : Value} {Q : PUnit → Shared → Prop} (hf : ∀ n v u, f (n, v) u = (do storeName env n v; pure (.yield ⟨⟩))) (hk : env.scope.kind = .function)
    (x : InCallC s₀ env.locals m env.cells cm s) (hl : env.kindOf n = some .local)
    (h : ∀ s', InCallC s₀ env.locals (fun y => if y = n then some v else m y) env.cells cm s' → 0 < s'.toks → Q ⟨⟩ s') : wpAny M A (forIn [(n, v)] ⟨⟩ f) Q E s := by
  rw [List.forIn_cons, hf]
  refine wpAny_bind (wpAny_bind (wpAny_storeName_local hl x.toInCall.ns (fun h' hn' hs' => wpAny_pure ?_) (by rw [hk]; rfl)))
  show wpAny M A (forIn [] _ f) Q E _
  rw [List.forIn_nil]
  refine wpAny_pure (h _ ⟨⟨?_, hn', fun b o e => ?_, x.toInCall.fresh⟩, fun k c hc => ?_, x.apart, x.above⟩ (Nat.succ_pos _))
  · refine exE2 x.toInCall.same fun h₁ tk eq_0 => ?_
    subst eq_0
    exact ⟨h', _, rfl⟩
  · exact hs'.extBut b o (Nat.ne_of_lt (Nat.lt_of_lt_of_le (Heap.lt_size e) x.toInCall.fresh)) (x.toInCall.keep b o e)
  · exact (x.cell k c hc).sameBut hs' (Nat.ne_of_gt (x.above k c (mem_of_lookup hc)))
theorem env_one {scope : Scope} {globals : Addr} {n : Str} {v : Value} {qual : Str} {func : Option Addr} {code : Value} {builtins : Addr} {Q : Env → Shared → Prop}
    (hk : scope.kind = .function) (hl : scope.names.lookup n = some .local)
    (hQ : ∀ env, env = newEnv scope s.heap.objs.size globals (cellsFrom (s.heap.objs.size + 1) scope.names []) qual func code none builtins →
      ∀ s', InCallC s env.locals (fun y => if y = n then some v else none) env.cells (fun _ => none) s' → 0 < s'.toks → Q env s') :
    wpAny M A (newFunctionEnv scope globals [] [(n, v)] qual func code none builtins) Q E s := by
  simp only [newFunctionEnv, Option.isSome_none, Bool.false_eq_true, if_false]
  refine wpAny_bind (wpAny_alloc ?_)
  refine wpAny_bind (wpAny_layCells _ (fun name kind cells => by cases hkc : kind == NameKind.cell <;> simp [hkc]) _ _ _ _ ?_)
  have ok := cellsFrom_ok scope.names (s.heap.push { cls := .type "frame", data := .dict #[] }) (s.heap.objs.size + 1) [] ⟨fun _ _ hm => (nomatch hm), List.Pairwise.nil⟩ (by rw [Heap.size_push]; exact Nat.le_refl _)
  rw [Heap.size_push] at ok
  rw [show ({ s with heap := s.heap.push { cls := .type "frame", data := .dict #[] } } : Shared).heap.objs.size = s.heap.objs.size + 1 from Heap.size_push ..]
  refine wpAny_bind (bind_one (s₀ := s) (env := newEnv scope s.heap.objs.size globals (cellsFrom (s.heap.objs.size + 1) scope.names []) qual func code none builtins) (m := fun _ => none) (cm := fun _ => none)
    (fun _ _ _ => rfl) hk
    ⟨⟨⟨_, _, rfl⟩, (Heap.Ns.new s.heap (.type "frame")).keeps (pushCells_keeps _ _), fun b o e => pushCells_keeps _ _ b o (Heap.get?_push_of_some _ e), Nat.le_refl _⟩,
      fun n c hc => (ok.empty n c (mem_of_lookup hc)).1, ok.apart, fun n c hm => (ok.empty n c hm).2⟩
    hl fun s' x p => wpAny_pure (hQ _ rfl s' x p))
end
theorem ns_none {K : Frag} {h : Heap} {a : Addr} {mm : Str → Option Value} {n : Str} (X : K.In h) (G : h.Ns a mm) (e : nsIn K a n = some none) : mm n = none := by
  refine exE3 G fun o es ep h_0 => anE4 h_0 fun ho hd _ hf => ?_
  clear h_0 G
  unfold nsIn at e
  split at e
  · rename_i q
    have := X _ _ q
    rw [ho] at this
    cases this
    cases hd
    split at e
    · cases e
    · rename_i he
      rw [← hf]
      unfold nsFind findBy
      rw [← Array.find?_toList, he]
      rfl
  · cases e
noncomputable def pmIn (K : Frag) (a : Addr) : Value := match K.lookup a with
  | some ⟨_, _, .func fd, _⟩ => fd.pyModule
  | _ => .none
noncomputable def qualIn (K : Frag) (c : Addr) : Option Str := match K.lookup c with
  | some ⟨_, _, .fields vs, _⟩ => (match (vs[1]? : Option Value) with | some (.str q _) => some q | _ => none)
  | _ => none
theorem codeRec_of {K : Frag} {h : Heap} {c : Addr} {q : Str} (X : K.In h) (e : qualIn K c = some q) : h.CodeRec (.ref c) q := by
  unfold qualIn at e
  split at e
  · rename_i k
    split at e
    · rename_i kv; cases e; exact ⟨c, _, _, _, rfl, X _ _ k, rfl, kv⟩
    · cases e
  · cases e
structure KF (K : Frag) : Prop where
  fn : ∀ p ∈ ("law", 193, 31) :: fnTable, nsIn K mainGlobals (Str.ofString p.1) = some (some (.ref (p.2.1 + 1))) ∧ K.lookup (p.2.1 + 1) = some (fnObj p.1 p.2.2 (pmIn K (p.2.1 + 1)) p.2.1) ∧ qualIn K p.2.1 = some (Str.ofString p.1)
  bi : ∀ p ∈ biTable, nsIn K mainGlobals (Str.ofString p.1) = some none
  dl : nsIn K mainGlobals (Str.ofString "_DIV_LIMIT") = some (some (.int 4000 284))
  crlf : nsIn K mainGlobals (Str.ofString "CRLF") = some (some (.str (Str.ofString "\r\n") 500))
  re1 : nsIn K mainGlobals (Str.ofString "_twin_re_1") = some (some (.ref 127))
  re2 : nsIn K mainGlobals (Str.ofString "_twin_re_2") = some (some (.ref 132))
  re3 : nsIn K mainGlobals (Str.ofString "_twin_re_3") = some (some (.ref 137))
  p1 : ∃ s f, K.lookup 127 = some { cls := .type "re.Pattern", data := .fields #[s, f, .int 0 0, .none, .none, .ref 126, .int 0 0] } ∧ K.lookup 126 = some { cls := .type "tuple", data := .seq pat1 }
  p2 : ∃ s f, K.lookup 132 = some { cls := .type "re.Pattern", data := .fields #[s, f, .int 0 0, .none, .none, .ref 131, .int 1 0] } ∧ K.lookup 131 = some { cls := .type "tuple", data := .seq pat1 }
  p3 : ∃ s f, K.lookup 137 = some { cls := .type "re.Pattern", data := .fields #[s, f, .int 0 0, .none, .none, .ref 136, .int 0 0] } ∧ K.lookup 136 = some { cls := .type "tuple", data := .seq pat3 }
  bm : nsIn K mainGlobals (Str.ofString "__builtins__") = some (some (.ref 4))
  nb : nsIn K cStatics sharingNotToldKey = some none
theorem bi_boot : ∀ p ∈ biTable, Str.ofString p.1 ≠ "__name__" ∧ bootBuiltins (Str.ofString p.1) = some p.2 := by
  unfold biTable
  repeat (first | exact List.forall_mem_nil _ | refine List.forall_mem_cons.mpr ⟨⟨by decide, by rfl⟩, ?_⟩)
theorem gd_of {K : Frag} {h : Heap} {p : Program} {loose : List Str} {mean : ExcName → Option Value} {mg mb : Loc} (X : K.In h) (T : Top p loose mean mg mb h) (c1 : CodeHd h 51 47) (c2 : CodeHd h 58 54) (F : KF K) : Gd mg mb h where
  g := T.g
  b := T.b
  lim := T.nolimit
  fn := fun p hp => let ⟨a, b, c⟩ := F.fn p (.tail _ hp); ⟨mg_of X T.g a, _, X _ _ b, codeRec_of X c⟩
  bi := fun p hp => ⟨mg_none_of X T.g (F.bi p hp), (T.builtins _ (bi_boot p hp).1).trans (bi_boot p hp).2⟩
  dl := ⟨_, mg_of X T.g F.dl⟩
  crlf := ⟨_, mg_of X T.g F.crlf⟩
  re1 := ⟨mg_of X T.g F.re1, let ⟨s, f, a, b⟩ := F.p1; ⟨s, f, X _ _ a, X _ _ b⟩⟩
  re2 := ⟨mg_of X T.g F.re2, let ⟨s, f, a, b⟩ := F.p2; ⟨s, f, X _ _ a, X _ _ b⟩⟩
  re3 := ⟨mg_of X T.g F.re3, let ⟨s, f, a, b⟩ := F.p3; ⟨s, f, X _ _ a, X _ _ b⟩⟩
  hd1 := c1
  hd2 := c2
  bmain := by
    refine exE2 T.bmain fun bm ob h_0 => anE6 h_0 fun h1 h2 h3 h4 h5 h6 => ?_
    clear h_0
    have : bm = 4 := by
      have e := mg_of X T.g F.bm
      rw [show Str.ofString "__builtins__" = ("__builtins__" : Str) from rfl, h1] at e
      injection e with e; injection e
    subst this
    exact ⟨4, ob, h1, h2, by decide, nt rfl, h3, h4, h5, h6⟩
  nb := let ⟨mc, a, _⟩ := T.nolimit; ⟨mc, a, ns_none X a F.nb⟩
end Mine

end

section
open PySem PySem.W PyProof.Rows
set_option maxRecDepth 100000
set_option maxHeartbeats 4000000
namespace Mine
noncomputable abbrev twoT : List (Addr × Addr) := [(51, 47), (58, 54)]
theorem ints_of {vs : List Value} {xs : List Int} (x : IntsAre vs xs) : Ints vs xs := by
  induction x with
  | nil => exact Ints.nil
  | cons n t _ ih => exact ih.cons
namespace hfinish
noncomputable def st_ (prog : PySem.Program) (w : PySem.World) (K : PySem.W.Frag) (s₁ : PySem.Shared) (p : PySem.Program) (loose : List PySem.Str) (mean : PySem.ExcName → Option PySem.Value) (mg mb : Mine.Loc) (sl : PySem.Addr) (vs : List PySem.Value) (ss : List Int) (R : PySem.Result → PySem.Shared → Prop) : Prop := ∀ {fa : PySem.Addr} (X : K.In s₁.heap) (F : KF K) (hK : noTabs K = true) (T : Top p loose mean mg mb s₁.heap) (hT : TabsAt twoT s₁.heap) (hg : s₁.gens = #[]) (hf : mg (Str.ofString "law") = some (.ref fa)) (hL : s₁.heap.IsList sl vs.toArray) (hI : IntsAre vs ss) (hn : ss.length ≤ 63) (hR : ∀ s', (∀ b o, (ghostOf s₁.heap twoT).get? b = some o → s'.heap.get? b = some o) → s'.os = s₁.os → s'.gens = #[] → GrownAll twoT s'.heap → R (.ok (.ret (.bool true))) s'), codeAny (model prog w) callerA (.call (.ref fa) ⟨[.ref sl], []⟩) R s₁
noncomputable abbrev T_ := (((PySem.Program × (PySem.World × PySem.W.Frag)) × (PySem.Shared × (PySem.Program × (List PySem.Str)))) × (((PySem.ExcName → Option PySem.Value) × (Mine.Loc × Mine.Loc)) × ((PySem.Addr × (List PySem.Value)) × ((List Int) × (PySem.Result → PySem.Shared → Prop)))))
theorem ne_ : Nonempty T_ := ⟨by repeat' (first | apply Prod.mk | exact default | exact nAr | exact nCx | exact nSh | constructor)⟩
noncomputable def Q_ (p : T_) : Prop := st_ p.1.1.1 p.1.1.2.1 p.1.1.2.2 p.1.2.1 p.1.2.2.1 p.1.2.2.2 p.2.1.1 p.2.1.2.1 p.2.1.2.2 p.2.2.1.1 p.2.2.1.2 p.2.2.2.1 p.2.2.2.2
noncomputable def w_ : T_ := @Classical.epsilon _ ne_ fun p => ¬ Q_ p
noncomputable def prog := w_.1.1.1
noncomputable def w := w_.1.1.2.1
noncomputable def K := w_.1.1.2.2
noncomputable def s₁ := w_.1.2.1
noncomputable def p := w_.1.2.2.1
noncomputable def mg := w_.2.1.2.1
noncomputable def mb := w_.2.1.2.2
noncomputable def sl := w_.2.2.1.1
theorem main_ : st_ prog w K s₁ p w_.1.2.2.2 w_.2.1.1 mg mb sl w_.2.2.1.2 w_.2.2.2.1 w_.2.2.2.2 := by
  intro fa X F hK T hT hg hf hL hI hn hR
  refine anE3 (F.fn ("law", 193, 31) (.head _)) fun hm hfn hq => ?_
  have e := mg_of X T.g hm
  rw [hf] at e
  injection e with e
  injection e with e
  subst e
  have hfn := X _ _ hfn
  have hcr := codeRec_of X hq
  have t47 := (hT (51, 47) (.head _)).2
  have t54 := (hT (58, 54) (.tail _ (.head _))).2
  refine codeAny_call_function (fd := fnX (Str.ofString "law") (Str.ofString "law") (paramsOf 31) (bodyOf 31) (scopeOf 31) [] .none .none .none (pmIn K (193 + 1)) none (.ref 193) .none) (body := bodyOf 31)
    (by decide) hfn rfl rfl rfl rfl hcr (BindsTo.of_eq (binds := [(Str.ofString "script", .ref sl)]) rfl _ _ _ _ ?_)
  refine env_one rfl rfl fun env' he s' x pos => ?_
  subst he
  refine ⟨T.nolimit.keeps x.toInCall.keep, codeAny_func ?_⟩
  refine exE2 x.done fun h₁ tk h_0 => anE2 h_0 fun eq_0 _ => ?_
  clear h_0
  subst eq_0
  have hk₁ := x.toInCall.keep
  refine exE1 (x.cell (Str.ofString "half") (s₁.heap.objs.size + 1) rfl) fun oc h_0 => anE2 h_0 fun hoc hcd => ?_
  clear h_0
  have hL54 : 54 < s₁.heap.objs.size := Heap.lt_size t54
  have gsz : (ghostOf s₁.heap twoT).objs.size = s₁.heap.objs.size := hideAll_size _ _
  have X' : K.In (ghostOf s₁.heap twoT) := ghost_K hT X hK
  have G : Gd mg mb (ghostOf s₁.heap twoT) := gd_of X' (ghost_top hT T) (ghost_code hT).1 (ghost_code hT).2.1 F
  refine exE1 (ghost_list hT hL) fun so h_0 => anE2 h_0 fun hsl hso => ?_
  clear h_0
  have nf : (fun y => if y = Str.ofString "script" then some (Value.ref sl) else none : Loc) floorKey = none := if_neg (by decide)
  have I : Inv { prog := prog, w := w, os := s₁.os, gens := #[] } (ghostOf s₁.heap twoT) s₁.heap.objs.size (fun y => if y = Str.ofString "script" then some (.ref sl) else none) [(s₁.heap.objs.size + 1, oc)] { s₁ with heap := h₁, toks := tk } := by
    refine ⟨hg, rfl, ⟨⟨#[], hk₁ _ _ t47, .inl ⟨rfl, rfl⟩⟩, ⟨#[], hk₁ _ _ t54, .inl ⟨rfl, rfl⟩⟩⟩, ⟨by rw [strip_none nf]; exact x.toInCall.ns, fun b o e => hk₁ b o (of_hideAll _ e), Nat.le_of_eq gsz⟩, fun p hp => ?_, List.nodup_cons.mpr ⟨List.not_mem_nil, List.nodup_nil⟩, ⟨by rw [gsz]; exact hL54, fun b hb => hideAll_none _ ?_⟩, ⟨by rw [flo_none nf]; exact Nat.zero_le _, pos⟩⟩
    · cases List.mem_singleton.mp hp
      exact ⟨hoc, Nat.succ_ne_self _, Heap.get?_none_of_le (by rw [gsz]; exact Nat.le_succ _), fun hb => absurd (isTab_le hb) (Nat.not_le.mpr (Nat.lt_succ_of_lt hL54))⟩
    · rcases hb with rfl | rfl
      · exact .head _
      · exact .tail _ (.head _)
  have W := (law_body (g0 := { prog := prog, w := w, os := s₁.os, gens := #[] }) (A := callerA.deeper (envX (Str.ofString "law") (scopeOf 31) s₁.heap.objs.size 194 (.ref 193) [(Str.ofString "half", s₁.heap.objs.size + 1)])) (L := s₁.heap.objs.size)
    (cn := Str.ofString "law") (a0 := 194) (ccd := .ref 193) G (Room.deeper ⟨rfl, by decide, by decide⟩ _) (Around.frames_deeper rfl) hsl hso (ints_of hI) (by rw [(ints_of hI).length]; exact hn) (if_pos rfl) (.head _) hcd).run _ I
  refine wpAny_mono W (fun fl s' ⟨m', N', I', S, r⟩ => ?_) fun _ _ e => e.elim
  subst r
  exact hR s' I'.fr.keep I'.os I'.gens ⟨I'.tab.get (.inl rfl), I'.tab.get (.inr rfl), trivial⟩
end hfinish
theorem finish {prog w K s₁ p loose mean mg mb sl vs ss R} : hfinish.st_ prog w K s₁ p loose mean mg mb sl vs ss R := Mine.hk hfinish.ne_ (P := hfinish.Q_) hfinish.main_ (((prog, (w, K)), (s₁, (p, loose))), ((mean, (mg, mb)), ((sl, vs), (ss, R))))
end Mine

end

end
open PySem PySem.W PyProof.Rows
namespace Mine
set_option maxRecDepth 100000 in
theorem law_said : OpenLaw.wellSaid PySem.Challenge.rw_ti0010_01 = true := by
  unfold OpenLaw.wellSaid OpenRow.wellSaid OpenRow.partSaid looksOpen
  repeat' with_reducible refine look_both ?_ ?_
  all_goals decide +kernel
end Mine
set_option maxRecDepth 100000 in
set_option maxHeartbeats 8000000 in
theorem PySem.Challenge.cw_ti0010_01_holds : PySem.Challenge.rw_ti0010_01.Holds := by
  w_on
  refine holds_law Mine.law_said fun said => ?_
  k_head
  case hw => w_witness2
  w_strict (
    k_fill
    intro w s₀ s₁ mg mb G Y fa o pm cd doc dV kV ho hd hcd hD hmg hg args vals as hpre hlay hrd hwl hlo
    have KX := km_in_of Y
    km_tabs Y
    refine Ground.open G ?_
    intro T B D TE TW
    km_lay T hmg ho hd cd
    wrow_args hpre hlay hrd hwl hlo
    all_goals (
      first | refine callC_kw (enter_call ?_) | refine enter_call ?_
      kn_posts
      rename Heap.IsList _ _ _ => hLs
      rename IntsAre _ _ => hIs
      refine Mine.finish KX (Mine.KF.mk ?fn ?bi (by kernel_rfl) (by kernel_rfl) (by kernel_rfl) (by kernel_rfl) (by kernel_rfl)
        ⟨.str (Str.ofString "(?m)^\\.") 427, .int 40 440, by kernel_rfl, by kernel_rfl⟩
        ⟨.bytes #[40, 63, 109, 41, 94, 92, 46] 443, .int 8 456, by kernel_rfl, by kernel_rfl⟩
        ⟨.str (Str.ofString "(?:\\r\\n|\\n|\\r(?!\\n))") 459, .int 32 498, by kernel_rfl, by kernel_rfl⟩
        (by kernel_rfl) (by kernel_rfl)) (by kernel_rfl) T hT9 hg hmg hLs hIs (by omega) ?_
      case fn =>
        unfold Mine.fnTable
        repeat (first | exact List.forall_mem_nil _ | refine List.forall_mem_cons.mpr ⟨⟨by kernel_rfl, by kernel_rfl, by kernel_rfl⟩, ?_⟩)
      case bi =>
        unfold Mine.biTable
        repeat (first | exact List.forall_mem_nil _ | refine List.forall_mem_cons.mpr ⟨by kernel_rfl, ?_⟩)
      intro s' hk hos hgn hgr
      refine ⟨⟨.inl ⟨_, .bool true, [], rfl, fun _ => rfl, .bool true, ?_, fun _ => ⟨List.nodup_nil, fun _ hm => nomatch hm⟩⟩, hk, hos, hgn⟩, hgr⟩
      wrow_post))
