import PyProof.Rows.All
import Wide.All
import OpenK.AllK
import Wide.FinOn
import PySem.Challenge.RW_gm0001_01
set_option Elab.async false
set_option linter.unusedVariables false
section
open PySem PySem.W PyProof.Rows PySem.Calls
set_option maxRecDepth 100000
set_option maxHeartbeats 0
namespace Mine
def hdS : List Stmt → Stmt
  | s :: _ => s
  | [] => .Pass ⟨0, 0, 0, 0⟩
def tlS : List Stmt → List Stmt
  | _ :: r => r
  | [] => []
def bd : List Stmt := PySem.Challenge.pw_gm0001_01.main.body
def sFuncStats : Stmt := hdS (tlS bd)
def sCallers : Stmt := hdS (tlS (tlS bd))
def sDigits : Stmt := hdS (tlS (tlS (tlS (tlS bd))))
def sHead : Stmt := hdS (tlS (tlS (tlS (tlS (tlS (tlS bd))))))
def sJoined : Stmt := hdS (tlS (tlS (tlS (tlS (tlS (tlS (tlS bd)))))))
def sLots : Stmt := hdS (tlS (tlS (tlS (tlS (tlS (tlS (tlS (tlS bd))))))))
def sLaw : Stmt := hdS (tlS (tlS (tlS (tlS (tlS (tlS (tlS (tlS (tlS bd)))))))))
def fBody : Stmt → List Stmt
  | .FunctionDef _ _ b _ _ _ _ _ _ _ => b
  | _ => []
def fArgs : Stmt → Arguments
  | .FunctionDef _ a _ _ _ _ _ _ _ _ => a
  | _ => { posonlyargs := [], args := [], vararg := none, kwonlyargs := [], kw_defaults := [], kwarg := none, defaults := [] }
def fScope : Stmt → Scope
  | .FunctionDef _ _ _ _ _ _ sc _ _ _ => sc
  | _ => { kind := .function, names := [], isGenerator := false, isCoroutine := false }
/-- what the walk asks of the written part -/
def FnIn (K : Frag) (f c : Addr) (st : Stmt) (name : String) : Prop :=
  (∃ doc pm ct, K.lookup f = some ⟨.type "function", none, .func (fnOf (Str.ofString name) (Str.ofString name) (fArgs st) (fBody st) (fScope st) .none .none doc pm none (.ref c) ct), #[]⟩) ∧ codeIn K (.ref c) (Str.ofString name) = true
theorem FnIn.keep {K : Frag} {f c : Addr} {st : Stmt} {name : String} (h : FnIn K f c st name) : keepIn K (.ref f) = true := by
  obtain ⟨⟨doc, pm, ct, hO⟩, _⟩ := h
  unfold keepIn
  simp only [hO]
structure KF (K : Frag) : Prop where
  oHead : FnIn K 42 41 sHead "_law_head"
  oJoined : FnIn K 49 48 sJoined "_law_joined"
  oLots : FnIn K 54 53 sLots "_law_lots"
  oDigits : FnIn K 35 34 sDigits "_int2digits"
  oStats : FnIn K 21 20 sFuncStats "add_func_stats"
  oCallers : FnIn K 28 27 sCallers "add_callers"
  nHead : nsIn K mainGlobals (Str.ofString "_law_head") = some (some (.ref 42))
  nJoined : nsIn K mainGlobals (Str.ofString "_law_joined") = some (some (.ref 49))
  nLots : nsIn K mainGlobals (Str.ofString "_law_lots") = some (some (.ref 54))
  nDigits : nsIn K mainGlobals (Str.ofString "_int2digits") = some (some (.ref 35))
  nStats : nsIn K mainGlobals (Str.ofString "add_func_stats") = some (some (.ref 21))
  nCallers : nsIn K mainGlobals (Str.ofString "add_callers") = some (some (.ref 28))
  nRange : nsIn K mainGlobals (Str.ofString "range") = some none
  nList : nsIn K mainGlobals (Str.ofString "list") = some none
  nLen : nsIn K mainGlobals (Str.ofString "len") = some none
  nSum : nsIn K mainGlobals (Str.ofString "sum") = some none
  nMin : nsIn K mainGlobals (Str.ofString "min") = some none
  nMax : nsIn K mainGlobals (Str.ofString "max") = some none
abbrev CallOk (prog : Program) (w : World) (K : Frag) (p : Program) (loose : List Str) (mean : ExcName → Option Value) (mg mb : Str → Option Value) (f : Addr) (need : Nat) (vs : List Value) (news : List (Addr × Obj)) (Post : Value → List (Addr × Obj) → Prop) : Prop :=
  ∀ (dp un : Nat) (gd : Option (List Code)) (cn : Str) (cs : Scope) (a : Addr) (ccd : Value) (cl : List (Str × Addr)) (outer : List Env) (A₀ : Around) (base h₀ : Heap) (L : Addr) (m : Str → Option Value) (s : Shared) (Q E : Value → Shared → Prop),
    Below A₀ base outer h₀ → Fr h₀ L s.heap m → K.In h₀ → News h₀ L s.heap news → Top p loose mean mg mb h₀ → cs.kind = .function → dp + need < recursionLimit → un + 8 * need < cLine →
    (∀ r news' h' tk', Fr h₀ L h' m → News h₀ L h' news' → Post r news' → Q r { s with heap := h', toks := tk' }) →
    wpAny (model prog w) (ktrTop dp un gd cn cs L a ccd cl outer) (call (.ref f) vs) Q E s
theorem CallOk.use {prog : Program} {w : World} {K : Frag} {p : Program} {loose : List Str} {mean : ExcName → Option Value} {mg mb : Str → Option Value} {f : Addr} {need : Nat} {vs : List Value} {news : List (Addr × Obj)} {Post : Value → List (Addr × Obj) → Prop}
    {dp un : Nat} {gd : Option (List Code)} {cn : Str} {cs : Scope} {a : Addr} {ccd : Value} {cl : List (Str × Addr)} {outer : List Env} {A₀ : Around} {base h₀ : Heap} {L : Addr} {m : Str → Option Value} {s : Shared} {Q E : Value → Shared → Prop}
    (C : CallOk prog w K p loose mean mg mb f need vs news Post) (B : Below A₀ base outer h₀) (F : Fr h₀ L s.heap m) (X : K.In h₀) (N : News h₀ L s.heap news) (T : Top p loose mean mg mb h₀) (hk : cs.kind = .function) (hd : dp + need < recursionLimit) (hu : un + 8 * need < cLine)
    (ret : ∀ r news' h' tk', Fr h₀ L h' m → News h₀ L h' news' → Post r news' → Q r { s with heap := h', toks := tk' }) :
    wpAny (model prog w) (ktrTop dp un gd cn cs L a ccd cl outer) (call (.ref f) vs) Q E s := C _ _ _ _ _ _ _ _ _ _ _ _ _ _ _ _ _ B F X N T hk hd hu ret
end Mine
end
section
open PySem PySem.W PyProof.Rows PySem.Calls
set_option maxRecDepth 100000
set_option maxHeartbeats 0
namespace Mine
def stepsFrom (ns : List Int) : Nat → Int → Int → Int × Int
  | 0, p, k => (p, k)
  | n + 1, p, k => if ns.getD p.toNat 0 ≠ p ∧ k < 20 then stepsFrom ns n (ns.getD p.toNat 0) (k + 1) else (p, k)
def headP (ns : List Int) (p : Int) : Int × Int := stepsFrom ns 20 p 0
theorem norm1 {m : Str → Option Value} {x : Str} {v : Value} (h : m x = some v) : m = fun y => if y = x then some v else m y := by
  funext y
  by_cases hy : y = x
  · subst hy; rw [if_pos rfl, h]
  · rw [if_neg hy]
theorem norm2 {m : Str → Option Value} {x y : Str} {v u : Value} (h : m x = some v) (h2 : m y = some u) : m = fun z => if z = x then some v else if z = y then some u else m z := by
  funext z
  by_cases hz : z = x
  · subst hz; rw [if_pos rfl, h]
  · rw [if_neg hz]; exact congrFun (norm1 h2) z
theorem norm3 {m : Str → Option Value} {x y x3 : Str} {v u v3 : Value} (h : m x = some v) (h2 : m y = some u) (h3 : m x3 = some v3) : m = fun z => if z = x then some v else if z = y then some u else if z = x3 then some v3 else m z := by
  funext z
  by_cases hz : z = x
  · subst hz; rw [if_pos rfl, h]
  · rw [if_neg hz]; exact congrFun (norm2 h2 h3) z
theorem fr_norm {h₀ h : Heap} {L : Addr} {m m' : Str → Option Value} (F : Fr h₀ L h m) (e : m = m') : Fr h₀ L h m' := e ▸ F
section
variable {prog : Program} {w : World} {K : Frag} {p : Program} {loose : List Str} {mean : ExcName → Option Value} {mg mb : Str → Option Value}
local macro_rules | `(tactic| k_is) => `(tactic| with_reducible assumption)
/-- a made tuple -/
abbrev tupO (vs : List Value) : Obj := { cls := .type "tuple", data := .seq vs.toArray }
structure Wf (ns : List Int) : Prop where
  len : ns.length = 12
  bnd : ∀ x ∈ ns, 0 ≤ x ∧ x < 12
theorem getD_mem' {ns : List Int} {i : Nat} (h : i < ns.length) : ns.getD i 0 ∈ ns := by
  rw [List.getD_eq_getElem?_getD, List.getElem?_eq_getElem h]; exact List.getElem_mem h
theorem Wf.at {ns : List Int} (h : Wf ns) {q : Int} (h0 : 0 ≤ q) (h1 : q < 12) : 0 ≤ ns.getD q.toNat 0 ∧ ns.getD q.toNat 0 < 12 :=
  h.bnd _ (getD_mem' (by rw [h.len]; omega))
theorem stepsFrom_bnd {ns : List Int} (h : Wf ns) : ∀ (n : Nat) (q k : Int), 0 ≤ q → q < 12 → k + (n : Int) = 20 → 0 ≤ k → (0 ≤ (stepsFrom ns n q k).1 ∧ (stepsFrom ns n q k).1 < 12) ∧ (0 ≤ (stepsFrom ns n q k).2 ∧ (stepsFrom ns n q k).2 ≤ 20)
  | 0, q, k, h0, h1, hk, hk0 => ⟨⟨h0, h1⟩, hk0, by show k ≤ 20; omega⟩
  | n + 1, q, k, h0, h1, hk, hk0 => by
    rw [stepsFrom]
    split
    · exact stepsFrom_bnd h n _ _ (h.at h0 h1).1 (h.at h0 h1).2 (by omega) (by omega)
    · exact ⟨⟨h0, h1⟩, hk0, by show k ≤ 20; omega⟩
theorem headP_bnd {ns : List Int} (h : Wf ns) {q : Int} (h0 : 0 ≤ q) (h1 : q < 12) : (0 ≤ (headP ns q).1 ∧ (headP ns q).1 < 12) ∧ (0 ≤ (headP ns q).2 ∧ (headP ns q).2 ≤ 20) :=
  stepsFrom_bnd h 20 q 0 h0 h1 (by omega) (by omega)
theorem head_ok (hK : KF K) {news : List (Addr × Obj)} {la : Addr} {vs : List Value} {ns : List Int} {nn : Nat} {pl : Int} {tk : Tok} (hm : (la, listOf vs.toArray nn) ∈ news) (hi : IntsAre vs ns)
   (hw : Wf ns) (h0 : 0 ≤ pl) (h1 : pl < 12) :
   CallOk prog w K p loose mean mg mb 42 1 [.ref la, .int pl tk] news (fun r news' => ∃ x t t', r = .ref x ∧ (∀ q ∈ news, q.1 < x) ∧ ((0 ≤ (headP ns pl).1 ∧ (headP ns pl).1 < 12) ∧ (0 ≤ (headP ns pl).2 ∧ (headP ns pl).2 ≤ 20)) ∧ news' = (x, tupO [.int (headP ns pl).1 t, .int (headP ns pl).2 t']) :: news) := by
  have hbn := headP_bnd hw h0 h1
  obtain ⟨⟨doc, pm, ct, hO⟩, hC⟩ := hK.oHead
  dsimp only [sHead, bd, PySem.Challenge.pw_gm0001_01, tlS, hdS, fArgs, fBody, fScope] at hO
  have hl := hw.len
  intro dp un gd cn cs a ccd cl outer A₀ base h₀ L m s Q E B F X N T hk hd hu hret
  refine wpAny_call ?_
  k_dflt cell_enter
  k_with "exec While BoolOp cons nil" => (
    (rename Fr _ _ _ _ => lF); (rename News _ _ _ _ => lN);
    refine While_inv2 (fun n m₁ news₁ => ∃ q k t1 t2, m₁ (Str.ofString "above") = some (.ref la) ∧ m₁ (Str.ofString "place") = some (.int q t1) ∧ m₁ (Str.ofString "steps") = some (.int k t2) ∧ news₁ = news ∧ k + (n : Int) = 20 ∧ 0 ≤ k ∧ 0 ≤ q ∧ q < 12 ∧ stepsFrom ns n q k = headP ns pl) (n₀ := 20) lF lN ⟨pl, 0, _, _, rfl, rfl, rfl, rfl, rfl, Int.le_refl 0, h0, h1, rfl⟩ ?_;
    clear lF lN;
    rintro n m₁ nx h tk F₁ N₁ ⟨q, k, t1, t2, ha, hp, hs, rfl, hkn, hk0, hq0, hq1, hinv⟩;
    replace F₁ := fr_norm F₁ (norm3 hs hp ha);
    try k_fold)
  k_steps
  · rename_i hne hlt tk3 t3 x3 h3 l3 h4 h5 h6 F6 N6
    obtain ⟨n', rfl⟩ : ∃ n', n = n' + 1 := ⟨n - 1, by omega⟩
    rw [stepsFrom, if_pos ⟨hne, hlt⟩] at hinv
    exact ⟨_, _, _, nx, n', rfl, F6, fun p hp => N6 p (.tail _ hp), Nat.lt_succ_self _, _, _, _, _, rfl, rfl, rfl, rfl, by omega, by omega, (hw.at hq0 hq1).1, (hw.at hq0 hq1).2, hinv⟩
  · rename_i hne hlt x3 h3 F3 N3 l3 F4 N4 T4 X4
    have e : headP ns pl = (q, k) := by
      rw [← hinv]
      cases n with
      | zero => rfl
      | succ n => rw [stepsFrom, if_neg (fun h => hlt h.2)]
    refine hret _ _ _ _ F4 N4 ⟨x3, t1, t2, rfl, l3, hbn, ?_⟩
    rw [e]
  · rename_i hne x3 h3 F3 N3 l3 F4 N4 T4 X4
    have e : headP ns pl = (q, k) := by
      rw [← hinv]
      cases n with
      | zero => rfl
      | succ n => rw [stepsFrom, if_neg (fun h => h.1 hne)]
    refine hret _ _ _ _ F4 N4 ⟨x3, t1, t2, rfl, l3, hbn, ?_⟩
    rw [e]
end
end Mine
end
section
open PySem PySem.W PyProof.Rows PySem.Calls
namespace Mine
structure JS where
  ab : List Int
  sz : List Int
  jn : Int
def js0 : JS := ⟨(List.range 12).map fun (i : Nat) => (i : Int), List.replicate 12 1, 0⟩
def JS.link (c : JS) (o t : Int) : JS := ⟨c.ab.set t.toNat o, c.sz.set o.toNat (c.sz.getD o.toNat 0 + c.sz.getD t.toNat 0), c.jn + 1⟩
def JS.step (c : JS) (p : Int × Int) : JS :=
  if (headP c.ab p.1).1 = (headP c.ab p.2).1 then c
  else if c.sz.getD (headP c.ab p.1).1.toNat 0 < c.sz.getD (headP c.ab p.2).1.toNat 0 then c.link (headP c.ab p.2).1 (headP c.ab p.1).1
  else c.link (headP c.ab p.1).1 (headP c.ab p.2).1
def joinedP (ps : List (Int × Int)) : JS := ps.foldl JS.step js0
def lotStep (lot : List Int) (p : Int × Int) : List Int := lot.map fun here => if here = max (lot.getD p.1.toNat 0) (lot.getD p.2.toNat 0) then min (lot.getD p.1.toNat 0) (lot.getD p.2.toNat 0) else here
def lots0 : List Int := (List.range 12).map fun (i : Nat) => (i : Int)
def lotsP (ps : List (Int × Int)) : List Int := ps.foldl lotStep lots0
def sumN : Nat → (Nat → Nat) → Nat
  | 0, _ => 0
  | n + 1, f => sumN n f + f n
theorem sumN_congr {f g : Nat → Nat} : ∀ n, (∀ i, i < n → f i = g i) → sumN n f = sumN n g
  | 0, _ => rfl
  | n + 1, h => by unfold sumN; rw [sumN_congr n fun i hi => h i (by omega), h n (by omega)]
theorem sumN_add (f g : Nat → Nat) : ∀ n, sumN n (fun i => f i + g i) = sumN n f + sumN n g
  | 0 => rfl
  | n + 1 => by show sumN n (fun i => f i + g i) + (f n + g n) = (sumN n f + f n) + (sumN n g + g n); rw [sumN_add f g n]; omega
theorem sumN_zero : ∀ n, sumN n (fun _ => 0) = 0
  | 0 => rfl
  | n + 1 => by show sumN n (fun _ => 0) + 0 = 0; rw [sumN_zero n]
theorem sumN_le {f g : Nat → Nat} : ∀ n, (∀ i, i < n → f i ≤ g i) → sumN n f ≤ sumN n g
  | 0, _ => Nat.le_refl _
  | n + 1, h => by
    unfold sumN
    have h1 := sumN_le n fun i hi => h i (by omega)
    have h2 := h n (by omega)
    omega
theorem sumN_one : ∀ n, sumN n (fun _ => 1) = n
  | 0 => rfl
  | n + 1 => by show sumN n (fun _ => 1) + 1 = n + 1; rw [sumN_one n]
theorem sumN_swap (g : Nat → Nat → Nat) (k : Nat) : ∀ n, sumN n (fun h => sumN k fun q => g h q) = sumN k fun q => sumN n fun h => g h q
  | 0 => by
    show 0 = sumN k fun q => 0
    rw [sumN_zero]
  | n + 1 => by
    show sumN n (fun h => sumN k fun q => g h q) + sumN k (fun q => g n q) = sumN k fun q => sumN n (fun h => g h q) + g n q
    rw [sumN_swap g k n, ← sumN_add]
theorem sumN_single (k x : Nat) : ∀ n, sumN n (fun h => if k = h then x else 0) = if k < n then x else 0
  | 0 => by simp [sumN]
  | n + 1 => by
    show sumN n (fun h => if k = h then x else 0) + (if k = n then x else 0) = _
    rw [sumN_single k x n]
    by_cases h1 : k < n
    · rw [if_pos h1, if_neg (by omega), if_pos (by omega)]; omega
    · rw [if_neg h1]
      by_cases h2 : k = n
      · rw [if_pos h2, if_pos (by omega)]; omega
      · rw [if_neg h2, if_neg (by omega)]
theorem sumN_pos {f : Nat → Nat} {k : Nat} : ∀ n, k < n → f k ≤ sumN n f
  | 0, h => by omega
  | n + 1, h => by
    unfold sumN
    by_cases h2 : k = n
    · subst h2; omega
    · have := sumN_pos (f := f) (k := k) n (by omega); omega
/-- how many places have the head r; their steps -/
def cnt (H : Nat → Nat) (r : Nat) : Nat := sumN 12 fun q => if H q = r then 1 else 0
def sm (H D : Nat → Nat) (r : Nat) : Nat := sumN 12 fun q => if H q = r then D q else 0
def rts (D : Nat → Nat) : Nat := sumN 12 fun q => if D q = 0 then 1 else 0
def tabM : List Nat := [0, 0, 2, 4, 8, 10, 14, 18, 24, 26, 30, 34, 40]
def M (n : Nat) : Nat := tabM.getD n 0
theorem M_tab : ∀ a b : Fin 13, a.val ≤ b.val → a.val + b.val ≤ 12 → M b.val + M a.val + 2 * a.val ≤ M (b.val + a.val) := by decide
theorem M_bits : ∀ a : Fin 13, M a.val ≤ a.val * Builtin.Int.intBits (a.val : Int) := by decide +kernel
theorem pow_bits : ∀ (n : Fin 13) (d : Fin 4), 2 ^ d.val ≤ n.val → d.val + 1 ≤ Builtin.Int.intBits (n.val : Int) := by decide +kernel
theorem cnt_le (H : Nat → Nat) (r : Nat) : cnt H r ≤ 12 := by
  have := sumN_le (f := fun q => if H q = r then 1 else 0) (g := fun _ => 1) 12 (fun i _ => by split <;> omega)
  rw [sumN_one] at this
  exact this
structure Inv (c : JS) (lots : List Int) (ps : List (Int × Int)) (f H D : Nat → Nat) : Prop where
  abl : c.ab.length = 12
  abf : ∀ q, q < 12 → c.ab.getD q 0 = (f q : Int)
  fb : ∀ q, q < 12 → f q < 12
  R : ∀ q, q < 12 → D q = 0 → H q = q ∧ f q = q
  S : ∀ q, q < 12 → D q ≠ 0 → D (f q) + 1 = D q ∧ H (f q) = H q
  Hb : ∀ q, q < 12 → H q < 12 ∧ D (H q) = 0
  szl : c.sz.length = 12
  szb : ∀ x ∈ c.sz, 0 ≤ x ∧ x ≤ 12
  szr : ∀ r, r < 12 → D r = 0 → c.sz.getD r 0 = (cnt H r : Int)
  pow : ∀ q, q < 12 → 2 ^ (D q) ≤ cnt H (H q)
  half : ∀ r, r < 12 → D r = 0 → 2 * sm H D r ≤ M (cnt H r)
  jn : c.jn + (rts D : Int) = 12
  ll : lots.length = 12
  lb : ∀ x ∈ lots, 0 ≤ x ∧ x < 12
  same : ∀ q, q < 12 → ∀ r, r < 12 → (lots.getD q 0 = lots.getD r 0 ↔ H q = H r)
  pairs : ∀ p ∈ ps, H p.1.toNat = H p.2.toNat
theorem d_small {d n : Nat} (h : 2 ^ d ≤ n) (hn : n ≤ 12) : d < 4 := by
  by_cases hd : d < 4
  · exact hd
  · have h4 : 2 ^ 4 ≤ 2 ^ d := Nat.pow_le_pow_right (by decide) (by omega)
    omega
theorem Inv.steps {c : JS} {lots : List Int} {ps : List (Int × Int)} {f H D : Nat → Nat} (I : Inv c lots ps f H D) : ∀ (n : Nat) (q : Nat) (k : Int), q < 12 → D q ≤ n → k + n ≤ 20 → stepsFrom c.ab n (q : Int) k = ((H q : Int), k + D q)
  | 0, q, k, hq, hd, _ => by
    have h0 : D q = 0 := by omega
    rw [stepsFrom, (I.R q hq h0).1, h0]; simp
  | n + 1, q, k, hq, hd, hk => by
    rw [stepsFrom, Int.toNat_natCast, I.abf q hq]
    by_cases h0 : D q = 0
    · rw [if_neg (by rw [(I.R q hq h0).2]; simp), (I.R q hq h0).1, h0]; simp
    · obtain ⟨h1, h2⟩ := I.S q hq h0
      have hne : f q ≠ q := fun e => by rw [e] at h1; omega
      rw [if_pos ⟨by omega, by omega⟩, I.steps n (f q) (k + 1) (I.fb q hq) (by omega) (by omega), h2, ← h1]
      congr 1
      omega
theorem Inv.dlt {c : JS} {lots : List Int} {ps : List (Int × Int)} {f H D : Nat → Nat} (I : Inv c lots ps f H D) {q : Nat} (hq : q < 12) : D q < 4 := d_small (I.pow q hq) (cnt_le _ _)
theorem Inv.head {c : JS} {lots : List Int} {ps : List (Int × Int)} {f H D : Nat → Nat} (I : Inv c lots ps f H D) {q : Nat} (hq : q < 12) : headP c.ab (q : Int) = ((H q : Int), (D q : Int)) := by
  unfold headP
  have := I.dlt hq
  rw [I.steps 20 q 0 hq (by omega) (by omega)]; simp
theorem getD_set {l : List Int} {i q : Nat} {v : Int} (hi : i < l.length) : (l.set i v).getD q 0 = if q = i then v else l.getD q 0 := by
  rw [List.getD_eq_getElem?_getD, List.getElem?_set, List.getD_eq_getElem?_getD]
  by_cases h : i = q
  · subst h; simp [hi]
  · rw [if_neg h, if_neg (fun e => h e.symm)]
theorem getD_map {l : List Int} {g : Int → Int} {q : Nat} (hq : q < l.length) : (l.map g).getD q 0 = g (l.getD q 0) := by
  rw [List.getD_eq_getElem?_getD, List.getElem?_map, List.getD_eq_getElem?_getD, List.getElem?_eq_getElem hq]; rfl
theorem mem_getD {l : List Int} {x : Int} (h : x ∈ l) : ∃ q, q < l.length ∧ l.getD q 0 = x := by
  obtain ⟨q, hq, e⟩ := List.getElem_of_mem h
  exact ⟨q, hq, by rw [List.getD_eq_getElem?_getD, List.getElem?_eq_getElem hq]; exact e⟩
theorem mem_set' {l : List Int} {i : Nat} {v x : Int} (h : x ∈ l.set i v) : x ∈ l ∨ x = v := List.mem_or_eq_of_mem_set h
def upH (H : Nat → Nat) (o t q : Nat) : Nat := if H q = t then o else H q
def upD (H D : Nat → Nat) (t q : Nat) : Nat := if H q = t then D q + 1 else D q
def upF (f : Nat → Nat) (o t q : Nat) : Nat := if q = t then o else f q
theorem cnt_o {H : Nat → Nat} {o t : Nat} (hne : o ≠ t) : cnt (upH H o t) o = cnt H o + cnt H t := by
  unfold cnt; rw [← sumN_add]
  refine sumN_congr 12 fun q _ => ?_
  unfold upH; (repeat' split) <;> omega
theorem cnt_r {H : Nat → Nat} {o t r : Nat} (h1 : r ≠ o) (h2 : r ≠ t) : cnt (upH H o t) r = cnt H r := by
  unfold cnt
  refine sumN_congr 12 fun q _ => ?_
  unfold upH; (repeat' split) <;> omega
theorem sm_o {H D : Nat → Nat} {o t : Nat} (hne : o ≠ t) : sm (upH H o t) (upD H D t) o = (sm H D o + sm H D t) + cnt H t := by
  unfold sm cnt; rw [← sumN_add, ← sumN_add]
  refine sumN_congr 12 fun q _ => ?_
  unfold upH upD; (repeat' split) <;> omega
theorem sm_r {H D : Nat → Nat} {o t r : Nat} (h1 : r ≠ o) (h2 : r ≠ t) : sm (upH H o t) (upD H D t) r = sm H D r := by
  unfold sm
  refine sumN_congr 12 fun q _ => ?_
  unfold upH upD; (repeat' split) <;> omega
theorem lot_same {x y la lb : Int} {u v o t : Nat} (h1 : x = la ↔ u = o) (h2 : x = lb ↔ u = t) (h3 : y = la ↔ v = o) (h4 : y = lb ↔ v = t) (h5 : x = y ↔ u = v) (hl : la ≠ lb) (ho : o ≠ t) :
    ((if x = max la lb then min la lb else x) = (if y = max la lb then min la lb else y)) ↔ ((if u = t then o else u) = (if v = t then o else v)) := by
  rcases Int.le_total la lb with h | h
  · rw [Int.max_eq_right h, Int.min_eq_left h]; (repeat' split) <;> omega
  · rw [Int.max_eq_left h, Int.min_eq_right h]; (repeat' split) <;> omega
theorem Inv.lots' {c : JS} {lots : List Int} {ps : List (Int × Int)} {f H D : Nat → Nat} (I : Inv c lots ps f H D) (p : Int × Int) : (lotStep lots p).length = 12 ∧ ∀ q, q < 12 → (lotStep lots p).getD q 0 = if lots.getD q 0 = max (lots.getD p.1.toNat 0) (lots.getD p.2.toNat 0) then min (lots.getD p.1.toNat 0) (lots.getD p.2.toNat 0) else lots.getD q 0 :=
  ⟨by unfold lotStep; rw [List.length_map]; exact I.ll, fun q hq => by unfold lotStep; exact getD_map (by rw [I.ll]; exact hq)⟩
theorem getD_b {l : List Int} (hl : l.length = 12) (h : ∀ x ∈ l, 0 ≤ x ∧ x < 12) {q : Nat} (hq : q < 12) : 0 ≤ l.getD q 0 ∧ l.getD q 0 < 12 := h _ (getD_mem' (by rw [hl]; exact hq))
theorem lotStep_b {lots : List Int} (hl : lots.length = 12) (h : ∀ x ∈ lots, 0 ≤ x ∧ x < 12) {p : Int × Int} (hp : (0 ≤ p.1 ∧ p.1 < 12) ∧ (0 ≤ p.2 ∧ p.2 < 12)) : ∀ x ∈ lotStep lots p, 0 ≤ x ∧ x < 12 := by
  intro x hx
  unfold lotStep at hx
  obtain ⟨y, hy, rfl⟩ := List.mem_map.mp hx
  have h1 := getD_b hl h (q := p.1.toNat) (by omega)
  have h2 := getD_b hl h (q := p.2.toNat) (by omega)
  have h3 := h y hy
  split <;> omega
theorem Inv.link {c : JS} {lots : List Int} {ps : List (Int × Int)} {f H D : Nat → Nat} (I : Inv c lots ps f H D) {p : Int × Int} (hp : (0 ≤ p.1 ∧ p.1 < 12) ∧ (0 ≤ p.2 ∧ p.2 < 12)) {o t : Nat} (ho : o < 12) (ht : t < 12) (Do : D o = 0) (Dt : D t = 0)
    (hne : o ≠ t) (hle : cnt H t ≤ cnt H o) (hot : (H p.1.toNat = o ∧ H p.2.toNat = t) ∨ (H p.1.toNat = t ∧ H p.2.toNat = o)) : Inv (c.link o t) (lotStep lots p) (ps ++ [p]) (upF f o t) (upH H o t) (upD H D t) := by
  have Ho := (I.R o ho Do).1
  have Ht := (I.R t ht Dt).1
  have hsum : cnt H o + cnt H t ≤ 12 := by rw [← cnt_o hne]; exact cnt_le _ _
  have co : cnt (upH H o t) o = cnt H o + cnt H t := cnt_o hne
  have root : ∀ r, r < 12 → upD H D t r = 0 → D r = 0 ∧ r ≠ t ∧ H r = r := by
    intro r hr h0
    unfold upD at h0
    by_cases h : H r = t
    · rw [if_pos h] at h0; omega
    · rw [if_neg h] at h0
      have := (I.R r hr h0).1
      exact ⟨h0, by omega, this⟩
  constructor
  · show (c.ab.set _ _).length = 12
    rw [List.length_set]; exact I.abl
  · intro q hq
    show (c.ab.set _ _).getD q 0 = _
    rw [getD_set (by rw [I.abl, Int.toNat_natCast]; exact ht), Int.toNat_natCast, I.abf q hq]
    unfold upF; split <;> rfl
  · intro q hq
    unfold upF
    split
    · exact ho
    · exact I.fb q hq
  · intro q hq h0
    obtain ⟨h1, h2, h3⟩ := root q hq h0
    refine ⟨?_, ?_⟩
    · unfold upH; rw [if_neg (by omega)]; exact h3
    · unfold upF; rw [if_neg h2]; exact (I.R q hq h1).2
  · intro q hq h0
    by_cases h : q = t
    · subst h
      have e1 : upF f o q q = o := by unfold upF; rw [if_pos rfl]
      rw [e1]
      unfold upD upH
      rw [if_neg (show ¬ H o = q by omega), if_pos Ht, if_neg (show ¬ H o = q by omega), if_pos Ht]
      exact ⟨by omega, Ho⟩
    · have e1 : upF f o t q = f q := by unfold upF; rw [if_neg h]
      rw [e1]
      have hD : D q ≠ 0 := by
        intro e
        have := (I.R q hq e).1
        unfold upD at h0
        rw [if_neg (by omega)] at h0
        exact h0 e
      obtain ⟨s1, s2⟩ := I.S q hq hD
      unfold upD upH
      rw [s2]
      refine ⟨?_, rfl⟩
      split <;> omega
  · intro q hq
    obtain ⟨h1, h2⟩ := I.Hb q hq
    by_cases h : H q = t
    · have e : upH H o t q = o := by unfold upH; rw [if_pos h]
      rw [e]
      refine ⟨ho, ?_⟩
      unfold upD; rw [if_neg (by omega)]; exact Do
    · have e : upH H o t q = H q := by unfold upH; rw [if_neg h]
      rw [e]
      refine ⟨h1, ?_⟩
      have := (I.R _ h1 h2).1
      unfold upD; rw [if_neg (by omega)]; exact h2
  · show (c.sz.set _ _).length = 12
    rw [List.length_set]; exact I.szl
  · intro x hx
    rcases mem_set' hx with hx | hx
    · exact I.szb x hx
    · rw [hx, Int.toNat_natCast, Int.toNat_natCast, I.szr o ho Do, I.szr t ht Dt]; omega
  · intro r hr h0
    obtain ⟨h1, h2, h3⟩ := root r hr h0
    show (c.sz.set _ _).getD r 0 = _
    rw [getD_set (by rw [I.szl, Int.toNat_natCast]; exact ho), Int.toNat_natCast, Int.toNat_natCast, I.szr o ho Do, I.szr t ht Dt]
    by_cases h : r = o
    · subst h; rw [if_pos rfl, co]; omega
    · rw [if_neg h, I.szr r hr h1, cnt_r h h2]
  · intro q hq
    have hpw := I.pow q hq
    by_cases h : H q = t
    · have e : upH H o t q = o := by unfold upH; rw [if_pos h]
      have e2 : upD H D t q = D q + 1 := by unfold upD; rw [if_pos h]
      rw [e, e2, co, Nat.pow_succ]
      rw [h] at hpw
      omega
    · have e : upH H o t q = H q := by unfold upH; rw [if_neg h]
      have e2 : upD H D t q = D q := by unfold upD; rw [if_neg h]
      rw [e, e2]
      by_cases h' : H q = o
      · rw [h', co]; rw [h'] at hpw; omega
      · rw [cnt_r h' h]; exact hpw
  · intro r hr h0
    obtain ⟨h1, h2, h3⟩ := root r hr h0
    by_cases h : r = o
    · subst h
      rw [co, sm_o hne]
      have m := M_tab ⟨cnt H t, by omega⟩ ⟨cnt H r, by omega⟩ hle (by dsimp only; omega)
      dsimp only at m
      have a1 := I.half r ho Do
      have a2 := I.half t ht Dt
      omega
    · rw [cnt_r h h2, sm_r h h2]; exact I.half r hr h1
  · show c.jn + 1 + _ = _
    have e : rts D = rts (upD H D t) + 1 := by
      have h1 : sumN 12 (fun q => if t = q then 1 else 0) = 1 := by rw [sumN_single, if_pos ht]
      unfold rts
      rw [← h1, ← sumN_add]
      refine sumN_congr 12 fun q hq => ?_
      unfold upD
      have hR := I.R q hq
      by_cases hq0 : D q = 0
      · have := (hR hq0).1
        (repeat' split) <;> omega
      · have : t ≠ q := fun e => hq0 (by rw [← e]; exact Dt)
        (repeat' split) <;> omega
    have := I.jn
    omega
  · exact (I.lots' p).1
  · exact lotStep_b I.ll I.lb hp
  · intro q hq r hr
    have ha : p.1.toNat < 12 := by omega
    have hb : p.2.toNat < 12 := by omega
    rw [(I.lots' p).2 q hq, (I.lots' p).2 r hr]
    unfold upH
    have hl : lots.getD p.1.toNat 0 ≠ lots.getD p.2.toNat 0 := fun e => by
      have := (I.same _ ha _ hb).mp e
      omega
    rcases hot with ⟨e1, e2⟩ | ⟨e1, e2⟩
    · refine lot_same ?_ ?_ ?_ ?_ (I.same q hq r hr) hl hne
      · rw [← e1]; exact I.same q hq _ ha
      · rw [← e2]; exact I.same q hq _ hb
      · rw [← e1]; exact I.same r hr _ ha
      · rw [← e2]; exact I.same r hr _ hb
    · rw [Int.max_comm, Int.min_comm]
      refine lot_same ?_ ?_ ?_ ?_ (I.same q hq r hr) (Ne.symm hl) hne
      · rw [← e2]; exact I.same q hq _ hb
      · rw [← e1]; exact I.same q hq _ ha
      · rw [← e2]; exact I.same r hr _ hb
      · rw [← e1]; exact I.same r hr _ ha
  · intro x hx
    rcases List.mem_append.mp hx with hx | hx
    · unfold upH; rw [I.pairs x hx]
    · rw [List.mem_singleton.mp hx]
      unfold upH
      rcases hot with ⟨e1, e2⟩ | ⟨e1, e2⟩ <;> rw [e1, e2] <;> (repeat' split) <;> omega
abbrev PB (p : Int × Int) : Prop := (0 ≤ p.1 ∧ p.1 < 12) ∧ (0 ≤ p.2 ∧ p.2 < 12)
theorem Inv.step {c : JS} {lots : List Int} {ps : List (Int × Int)} {f H D : Nat → Nat} (I : Inv c lots ps f H D) {p : Int × Int} (hp : PB p) : ∃ f' H' D', Inv (c.step p) (lotStep lots p) (ps ++ [p]) f' H' D' := by
  obtain ⟨⟨a0, a1⟩, b0, b1⟩ := hp
  have ha : p.1.toNat < 12 := by omega
  have hb : p.2.toNat < 12 := by omega
  have e1 := I.head ha
  have e2 := I.head hb
  rw [show ((p.1.toNat : Nat) : Int) = p.1 by omega] at e1
  rw [show ((p.2.toNat : Nat) : Int) = p.2 by omega] at e2
  obtain ⟨u1, u2⟩ := I.Hb _ ha
  obtain ⟨v1, v2⟩ := I.Hb _ hb
  unfold JS.step
  rw [e1, e2]
  dsimp only
  by_cases h : H p.1.toNat = H p.2.toNat
  · rw [if_pos (by rw [h])]
    have hl : lots.getD p.1.toNat 0 = lots.getD p.2.toNat 0 := (I.same _ ha _ hb).mpr h
    have el : lotStep lots p = lots := by
      unfold lotStep
      rw [hl]
      have e : (fun here : Int => if here = max (lots.getD p.2.toNat 0) (lots.getD p.2.toNat 0) then min (lots.getD p.2.toNat 0) (lots.getD p.2.toNat 0) else here) = id := by
        funext x
        rw [Int.max_self, Int.min_self]
        split
        · exact (by assumption : x = _).symm
        · rfl
      rw [e, List.map_id]
    rw [el]
    refine ⟨f, H, D, I.abl, I.abf, I.fb, I.R, I.S, I.Hb, I.szl, I.szb, I.szr, I.pow, I.half, I.jn, I.ll, I.lb, I.same, ?_⟩
    intro x hx
    rcases List.mem_append.mp hx with hx | hx
    · exact I.pairs x hx
    · rw [List.mem_singleton.mp hx]; exact h
  · rw [if_neg (fun e => h (by omega)), Int.toNat_natCast, Int.toNat_natCast, I.szr _ u1 u2, I.szr _ v1 v2]
    split
    · exact ⟨_, _, _, I.link ⟨⟨a0, a1⟩, b0, b1⟩ v1 u1 v2 u2 (fun e => h e.symm) (by omega) (.inr ⟨rfl, rfl⟩)⟩
    · exact ⟨_, _, _, I.link ⟨⟨a0, a1⟩, b0, b1⟩ u1 v1 u2 v2 h (by omega) (.inl ⟨rfl, rfl⟩)⟩
theorem getD_lots0 {q : Nat} (hq : q < 12) : lots0.getD q 0 = (q : Int) := by
  unfold lots0
  rw [List.getD_eq_getElem?_getD, List.getElem?_map, List.getElem?_range hq]; rfl
theorem cnt_id {r : Nat} (hr : r < 12) : cnt id r = 1 := by
  have h1 : sumN 12 (fun q => if r = q then 1 else 0) = 1 := by rw [sumN_single, if_pos hr]
  unfold cnt
  refine Eq.trans (sumN_congr 12 fun q _ => ?_) h1
  by_cases h : q = r
  · subst h; rfl
  · rw [if_neg (show ¬ id q = r from h), if_neg (fun e => h e.symm)]
theorem sm_id (r : Nat) : sm id (fun _ => 0) r = 0 := by
  unfold sm
  refine Eq.trans (sumN_congr 12 fun q _ => ?_) (sumN_zero 12)
  split <;> rfl
theorem Inv.init : Inv js0 lots0 [] id id (fun _ => 0) where
  abl := by simp [js0]
  abf := fun q hq => getD_lots0 hq
  fb := fun q hq => hq
  R := fun q _ _ => ⟨rfl, rfl⟩
  S := fun q _ h => absurd rfl h
  Hb := fun q hq => ⟨hq, rfl⟩
  szl := by simp [js0]
  szb := fun x hx => by rw [List.eq_of_mem_replicate hx]; omega
  szr := fun r hr _ => by
    rw [cnt_id hr]
    show (List.replicate 12 (1 : Int)).getD r 0 = _
    rw [List.getD_eq_getElem?_getD, List.getElem?_replicate, if_pos hr]; rfl
  pow := fun q hq => by rw [show id q = q from rfl, cnt_id hq]; decide
  half := fun r hr _ => by rw [sm_id]; omega
  jn := by
    have : rts (fun _ => 0) = 12 := sumN_one 12
    rw [this]; rfl
  ll := by simp [lots0]
  lb := fun x hx => by
    simp only [lots0, List.mem_map, List.mem_range] at hx
    obtain ⟨i, h, rfl⟩ := hx
    omega
  same := fun q hq r hr => by rw [getD_lots0 hq, getD_lots0 hr]; show _ ↔ q = r; omega
  pairs := fun p hp => by cases hp
theorem inv_of {c : JS} {lots : List Int} {qs : List (Int × Int)} : ∀ (ps : List (Int × Int)) (c : JS) (lots : List Int) (qs : List (Int × Int)), (∀ p ∈ ps, PB p) → (∃ f H D, Inv c lots qs f H D) → ∃ f H D, Inv (ps.foldl JS.step c) (ps.foldl lotStep lots) (qs ++ ps) f H D
  | [], c, lots, qs, _, h => by rw [List.append_nil]; exact h
  | p :: r, c, lots, qs, hb, ⟨f, H, D, I⟩ => by
    have := inv_of (c := c) (lots := lots) (qs := qs) r (c.step p) (lotStep lots p) (qs ++ [p]) (fun x hx => hb x (.tail _ hx)) (I.step (hb p (.head _)))
    rwa [List.append_assoc] at this
theorem inv_all (ps : List (Int × Int)) (h : ∀ p ∈ ps, PB p) : ∃ f H D, Inv (joinedP ps) (lotsP ps) ps f H D :=
  inv_of (c := js0) (lots := lots0) (qs := []) ps js0 lots0 [] h ⟨_, _, _, .init⟩
structure JWf (c : JS) : Prop where
  wf : Wf c.ab
  zl : c.sz.length = 12
  zb : ∀ x ∈ c.sz, 0 ≤ x ∧ x ≤ 12
theorem Inv.wf {c : JS} {lots : List Int} {ps : List (Int × Int)} {f H D : Nat → Nat} (I : Inv c lots ps f H D) : Wf c.ab :=
  ⟨I.abl, fun x hx => by
    obtain ⟨q, hq, e⟩ := mem_getD hx
    rw [I.abl] at hq
    have := I.fb q hq
    rw [← e, I.abf q hq]; omega⟩
theorem jwf {ps : List (Int × Int)} (h : ∀ ab ∈ ps, (0 ≤ ab.1 ∧ ab.1 < 12) ∧ (0 ≤ ab.2 ∧ ab.2 < 12)) : JWf (joinedP ps) := by
  obtain ⟨f, H, D, I⟩ := inv_all ps h
  exact ⟨I.wf, I.szl, I.szb⟩
theorem lots_wf (ps : List (Int × Int)) (h : ∀ ab ∈ ps, (0 ≤ ab.1 ∧ ab.1 < 12) ∧ (0 ≤ ab.2 ∧ ab.2 < 12)) : Wf (lotsP ps) := by
  obtain ⟨f, H, D, I⟩ := inv_all ps h
  exact ⟨I.ll, I.lb⟩
theorem Inv.same_step {c : JS} {lots : List Int} {ps : List (Int × Int)} {f H D : Nat → Nat} (I : Inv c lots ps f H D) {p : Int × Int} (hp : PB p) (hm : H p.1.toNat = H p.2.toNat) : c.step p = c := by
  obtain ⟨⟨a0, a1⟩, b0, b1⟩ := hp
  have e1 := I.head (q := p.1.toNat) (by omega)
  have e2 := I.head (q := p.2.toNat) (by omega)
  rw [show ((p.1.toNat : Nat) : Int) = p.1 by omega] at e1
  rw [show ((p.2.toNat : Nat) : Int) = p.2 by omega] at e2
  unfold JS.step
  rw [e1, e2]
  dsimp only
  rw [if_pos (by rw [hm])]
theorem Inv.same_fold {c : JS} {lots : List Int} {ps : List (Int × Int)} {f H D : Nat → Nat} (I : Inv c lots ps f H D) : ∀ rs : List (Int × Int), (∀ p ∈ rs, PB p) → (∀ p ∈ rs, H p.1.toNat = H p.2.toNat) → rs.foldl JS.step c = c
  | [], _, _ => rfl
  | p :: r, hb, hm => by
    rw [List.foldl_cons, I.same_step (hb p (.head _)) (hm p (.head _))]
    exact I.same_fold r (fun x hx => hb x (.tail _ hx)) fun x hx => hm x (.tail _ hx)
theorem twice (ps : List (Int × Int)) (h : ∀ p ∈ ps, PB p) : joinedP (ps ++ ps) = joinedP ps := by
  obtain ⟨f, H, D, I⟩ := inv_all ps h
  unfold joinedP
  rw [List.foldl_append]
  exact I.same_fold ps h I.pairs
end Mine
end
section
open PySem PySem.W PyProof.Rows PySem.Calls
set_option maxRecDepth 100000
set_option maxHeartbeats 1000000
namespace Mine
section
variable {prog : Program} {w : World} {A : Around} {E : Value → Shared → Prop} {s : Shared} {env : Env} {h₀ : Heap} {target : Expr} {body : List Stmt} {Q : Flow → Shared → Prop}
theorem UnrPostW_mono {L : Addr} {s₁ : Shared} {its : List (Addr × Obj)} {R R' : (Str → Option Value) → List (Addr × Obj) → Prop} {f : Flow} {s₂ : Shared} (hR : ∀ m n, (∀ p ∈ n, ∀ q ∈ its, p.1 ≠ q.1) → R m n → R' m n)
    (h : UnrPostW h₀ L s₁ its R Q f s₂) : UnrPostW h₀ L s₁ its R' Q f s₂ := by
  have up : UnrEndW h₀ L s₁ its R s₂ → UnrEndW h₀ L s₁ its R' s₂ := by
    rintro ⟨h', tk, m', news', e, F', N', off, r⟩
    exact ⟨h', tk, m', news', e, F', N', off, hR _ _ off r⟩
  cases f with
  | ret v => exact h
  | brk => exact h
  | next => exact up h
  | cont => exact up h
theorem AllObj_intro : ∀ {ws : List (Addr × String)} {k : List (Addr × Obj) → Prop}, (∀ its, Objs ws its → k its) → AllObj ws k
  | [], _, h => h [] trivial
  | _ :: _, _, h => fun _ ho => AllObj_intro fun _ hi => h _ ⟨⟨rfl, ho⟩, hi⟩
theorem items_inv {ws : List (Addr × String)} {keep : List (Addr × Obj)} (J : Nat → (Str → Option Value) → List (Addr × Obj) → Prop) (all : List Itm)
    (turn : ∀ i a v m₁ nx h tk its, all[i]? = some a → a.Is v h → J i m₁ nx → Objs ws its → Fr h₀ env.locals h m₁ → News h₀ env.locals h (its ++ nx) →
      wpAny (model prog w) A (assign target env v) (fun _ s₂ => wpAny (model prog w) A (execs body env) (UnrPostW h₀ env.locals { s with heap := h, toks := tk } its (fun m' n' => SubL keep n' ∧ J (i + 1) m' n') Q) E s₂) E { s with heap := h, toks := tk })
    (done : ∀ m₁ nx h tk, J all.length m₁ nx → Fr h₀ env.locals h m₁ → News h₀ env.locals h nx → Q .next { s with heap := h, toks := tk }) :
    ∀ (xs : List Itm) (i : Nat) (m : Str → Option Value) (news : List (Addr × Obj)), all.drop i = xs → i ≤ all.length → J i m news → ItemsRest prog w A E h₀ env target body Q s ws keep xs m news
  | [], i, m, news, e, hle, hj => by
    have hi : all.length ≤ i := by simpa using e
    intro h tk F N
    exact done m news h tk (by rw [Nat.le_antisymm hi hle]; exact hj) F N
  | a :: r, i, m, news, e, hle, hj => by
    intro v h tk ha F
    refine AllObj_intro fun its hits N => ?_
    have hi : all[i]? = some a := by
      have := congrArg List.head? e
      rw [List.head?_drop] at this
      simpa using this
    have hr : all.drop (i + 1) = r := by
      have := congrArg List.tail e
      rw [List.tail_drop] at this
      simpa using this
    have hlt : i + 1 ≤ all.length := by
      have := (List.getElem?_eq_some_iff.mp hi).1
      omega
    refine wpAny_mono (turn i a v m news h tk its hi ha hj hits F N) (fun _ s₂ q => wpAny_mono q (fun f s₃ q' => ?_) fun _ _ x => x) fun _ _ x => x
    exact UnrPostW_mono (fun m' n' _ ⟨h1, h2⟩ => ⟨h1, items_inv J all turn done r (i + 1) m' n' hr hlt h2⟩) q'
def FEnd (h₀ : Heap) (L : Addr) (s₁ : Shared) (I : Addr) (it : Obj) (J : (Str → Option Value) → List (Addr × Obj) → Prop) (s₂ : Shared) : Prop :=
  ∃ h' tk m' nx, s₂ = { s₁ with heap := h', toks := tk } ∧ Fr h₀ L h' m' ∧ News h₀ L h' ((I, it) :: nx) ∧ (∀ p ∈ nx, p.1 ≠ I) ∧ J m' nx
def FPost (h₀ : Heap) (L : Addr) (s₁ : Shared) (I : Addr) (it : Obj) (J : (Str → Option Value) → List (Addr × Obj) → Prop) (Q : Flow → Shared → Prop) (f : Flow) (s₂ : Shared) : Prop :=
  match f with
  | .ret v => Q (.ret v) s₂
  | .brk => Q .next s₂
  | _ => FEnd h₀ L s₁ I it J s₂
theorem fpost_up {L I : Addr} {it : Obj} {s₁ : Shared} {keep : List (Addr × Obj)} {J : (Str → Option Value) → List (Addr × Obj) → Prop} {f : Flow} {s₂ : Shared} (hk : ∀ m nx, J m nx → SubL keep nx)
    (h : FPost h₀ L s₁ I it J Q f s₂) : UnrPostW h₀ L s₁ [(I, it)] (fun m' n' => SubL keep n' ∧ (J m' n' ∧ ∀ p ∈ n', p.1 ≠ I)) Q f s₂ := by
  have up : FEnd h₀ L s₁ I it J s₂ → UnrEndW h₀ L s₁ [(I, it)] (fun m' n' => SubL keep n' ∧ (J m' n' ∧ ∀ p ∈ n', p.1 ≠ I)) s₂ := by
    rintro ⟨h', tk, m', nx, e, F', N', off, hj⟩
    exact ⟨h', tk, m', nx, e, F', N', fun p hp q hq => by rw [List.mem_singleton.mp hq]; exact off p hp, hk _ _ hj, hj, off⟩
  cases f with
  | ret v => exact h
  | brk => exact h
  | next => exact up h
  | cont => exact up h
theorem objs_one {I : Addr} {n : String} : ∀ {its : List (Addr × Obj)}, Objs [(I, n)] its → ∃ it, its = [(I, it)]
  | [], h => (show False from h).elim
  | [(b, it)], h => ⟨it, by have hb : b = I := h.1.1; rw [hb]⟩
  | _ :: _ :: _, h => (show False from h.2).elim
/-- a for over a made list, any target: an invariant over the turn's number, the frame's names and the ledger -/
theorem for_list {ax : Addr} {lo : Obj} {vs : List Value} {n : Nat} {m₀ : Str → Option Value} {news : List (Addr × Obj)} (J : Nat → (Str → Option Value) → List (Addr × Obj) → Prop)
    (hh : A.handled = none) (F : Fr h₀ env.locals s.heap m₀) (N : News h₀ env.locals s.heap news) (hm : (ax, lo) ∈ news) (hc : lo.cls = .type "list") (hd : lo.data = .seq vs.toArray n)
    (h0 : J 0 m₀ news) (hkeep : ∀ i m nx, J i m nx → (ax, lo) ∈ nx)
    (turn : ∀ I it i v m₁ nx h tk, vs[i]? = some v → J i m₁ nx → (∀ p ∈ nx, p.1 ≠ I) → Fr h₀ env.locals h m₁ → News h₀ env.locals h ((I, it) :: nx) →
      wpAny (model prog w) A (assign target env v) (fun _ s₂ => wpAny (model prog w) A (execs body env) (FPost h₀ env.locals { s with heap := h, toks := tk } I it (J (i + 1)) Q) E s₂) E { s with heap := h, toks := tk })
    (done : ∀ m₁ nx h tk, J vs.length m₁ nx → Fr h₀ env.locals h m₁ → News h₀ env.locals h nx → Q .next { s with heap := h, toks := tk }) :
    wpAny (model prog w) A (pyIter (.ref ax)) (fun it s₂ => TurnsAt prog w A h₀ env target body Q E it s₂) E s := by
  refine iter_listTurns hh F N hm hc hd fun I hI => ?_
  refine items_inv (fun i m nx => J i m nx ∧ ∀ p ∈ nx, p.1 ≠ I) (vs.map .val) ?_ ?_ _ 0 _ _ rfl (Nat.zero_le _) ⟨h0, fun p hp => Nat.ne_of_lt (hI p hp)⟩
  · rintro i a v m₁ nx h tk its ha hav ⟨hj, off⟩ hits F₁ N₁
    rw [List.getElem?_map] at ha
    obtain ⟨u, hu, rfl⟩ := Option.map_eq_some_iff.mp ha
    have e : v = u := hav
    subst e
    obtain ⟨it, rfl⟩ := objs_one hits
    refine wpAny_mono (turn I it i v m₁ nx h tk hu hj off F₁ N₁) (fun _ s₂ q => wpAny_mono q (fun f s₃ q' => ?_) fun _ _ x => x) fun _ _ x => x
    exact fpost_up (fun m nx hj => ⟨hkeep _ _ _ hj, trivial⟩) q'
  · rintro m₁ nx h tk ⟨hj, _⟩ F₁ N₁
    rw [List.length_map] at hj
    exact done m₁ nx h tk hj F₁ N₁
theorem letGo_range {target : Expr} {I : Addr} {a b c : Int} {v : Value} {Q' : Unit → Shared → Prop} {s' : Shared} (hit : IsRangeIter s'.heap I a b c) (h : Q' () s') :
    wpAny (model prog w) A (letOwnedTupleGo target (.ref I) v) Q' E s' := by
  have ho : s'.heap.get? I = some _ := hit
  unfold letOwnedTupleGo
  cases target <;> first
    | exact wpAny_pure h
    | (cases v <;> first
        | exact wpAny_pure h
        | (refine wpAny_bind (wpAny_load ho ?_)
           exact wpAny_pure h))
theorem for_range {r : Addr} {a b : Int} {t u v : Tok} {n : Nat} {m₀ : Str → Option Value} {news : List (Addr × Obj)} (J : Nat → (Str → Option Value) → List (Addr × Obj) → Prop)
    (hh : A.handled = none) (F : Fr h₀ env.locals s.heap m₀) (N : News h₀ env.locals s.heap news) (hr : IsRange s.heap r a b 1 t u v) (hsmall : Builtin.Range.small a b 1 = true) (hn : Builtin.Range.rangeSize a b 1 = (n : Int))
    (h0 : J 0 m₀ news)
    (turn : ∀ I it i t m₁ nx h tk, i < n → J i m₁ nx → (∀ p ∈ nx, p.1 ≠ I) → Fr h₀ env.locals h m₁ → News h₀ env.locals h ((I, it) :: nx) →
      wpAny (model prog w) A (assign target env (.int (a + (i : Int)) t)) (fun _ s₂ => wpAny (model prog w) A (execs body env) (FPost h₀ env.locals { s with heap := h, toks := tk } I it (J (i + 1)) Q) E s₂) E { s with heap := h, toks := tk })
    (done : ∀ m₁ nx h tk, J n m₁ nx → Fr h₀ env.locals h m₁ → News h₀ env.locals h nx → Q .next { s with heap := h, toks := tk }) :
    wpAny (model prog w) A (pyIter (.ref r)) (fun it s₂ => TurnsAt prog w A h₀ env target body Q E it s₂) E s := by
  refine wpAny_pyIter_range hr hsmall ?_
  have hst0 : IsRangeIter (s.heap.push { cls := .type "range_iterator", data := .fields #[rawInt a, rawInt (Builtin.Range.rangeSize a b 1), rawInt 1] }) s.heap.objs.size (a + ((0 : Nat) : Int) * 1) ((n : Int) - ((0 : Nat) : Int)) 1 := by
    show IsRangeIter _ _ _ _ _; rw [hn]; simpa using Heap.get?_push_size _ rfl
  have W : Walks prog w A s.heap.objs.size [s.heap.objs.size] [s.heap.objs.size] n (fun i v => i < n ∧ ∃ t, v = .int (a + i * 1) t) (fun i h => IsRangeIter h s.heap.objs.size (a + (i : Nat) * 1) ((n : Int) - (i : Nat)) 1) := (Walks.range hh _ a 1 n).bound
  have hI : ∀ p ∈ news, p.1 ≠ s.heap.objs.size := fun p hp => Nat.ne_of_lt (Heap.lt_size (N p hp).1)
  refine ktu_core (tk0 := s.toks) (keep := []) (ws := [(s.heap.objs.size, "range_iterator")]) (xs := (List.range n).map fun (i : Nat) => Itm.tok fun t => .int (a + (i : Int)) t) (KTurns.ofWalks W fun i v s Q E st q => letGo_range st q) (by simp) (fun i v h hp => ?_) (fun i h st => ?_) (fun b hb => ?_) (fun b hb => by simpa using hb) (fun b hb => ?_) ?_ (fun p hp hq => ?_) hst0 (F.push _) (fun p hp => ⟨Heap.get?_push_of_some _ (N p hp).1, (N p hp).2⟩) trivial ?_
  · obtain ⟨hin, t, rfl⟩ := hp
    exact ⟨.tok fun t => .int (a + (i : Int)) t, by simp [hin], t, by rw [Int.mul_one]⟩
  · exact ⟨[(s.heap.objs.size, _)], ⟨⟨rfl, rfl⟩, trivial⟩, fun p hp => by rw [List.mem_singleton.mp hp]; exact st⟩
  · have hb' : b = s.heap.objs.size := by simpa using hb
    rw [hb']
    exact ⟨List.mem_singleton.mpr rfl, next_is_new F⟩
  · exact .inl (by simpa using hb)
  · intro hq
    exact absurd F.ns.lt ((List.mem_singleton.mp hq) ▸ Nat.lt_irrefl _)
  · exact hI p hp (List.mem_singleton.mp hq)
  · refine items_inv (fun i m nx => J i m nx ∧ ∀ p ∈ nx, p.1 ≠ s.heap.objs.size) ((List.range n).map fun (i : Nat) => Itm.tok fun t => .int (a + (i : Int)) t) ?_ ?_ _ 0 _ _ rfl (Nat.zero_le _) ⟨h0, hI⟩
    · rintro i x v m₁ nx h tk its ha hav ⟨hj, off⟩ hits F₁ N₁
      rw [List.getElem?_map] at ha
      obtain ⟨u, hu, rfl⟩ := Option.map_eq_some_iff.mp ha
      obtain ⟨hlt, hu'⟩ := List.getElem?_eq_some_iff.mp hu
      rw [List.length_range] at hlt
      rw [List.getElem_range] at hu'
      subst hu'
      obtain ⟨t, rfl⟩ := hav
      obtain ⟨it, rfl⟩ := objs_one hits
      refine wpAny_mono (turn _ it i t m₁ nx h tk hlt hj off F₁ N₁) (fun _ s₂ q => wpAny_mono q (fun f s₃ q' => ?_) fun _ _ x => x) fun _ _ x => x
      exact fpost_up (fun m nx hj => trivial) q'
    · rintro m₁ nx h tk ⟨hj, _⟩ F₁ N₁
      rw [List.length_map, List.length_range] at hj
      exact done m₁ nx h tk hj F₁ N₁
theorem newTuple_fr {M : Model} {L : Addr} {m : Str → Option Value} {news : List (Addr × Obj)} {vs : List Value} {Q : Value → Shared → Prop} (F : Fr h₀ L s.heap m) (N : News h₀ L s.heap news)
    (h : ∀ x h', Fr h₀ L h' m → News h₀ L h' ((x, tupO vs) :: news) → (∀ p ∈ news, p.1 < x) → Q (.ref x) { s with heap := h' }) (hsz : vs.length ≤ sizeLine := by size_fits) :
    wpAny M A (newTuple vs) Q E s := newTuple_N F N (fun h' F' N' => h _ h' F' N' fun p hp => Heap.lt_size (N p hp).1) hsz
end
end Mine
end
section
open PySem PySem.W PyProof.Rows PySem.Calls
set_option maxRecDepth 100000
set_option maxHeartbeats 0
set_option rowWalk.seconds 0
namespace Mine
def PairAt (news : List (Addr × Obj)) (v : Value) (ab : Int × Int) : Prop := ∃ x t1 t2, v = .ref x ∧ (x, tupO [.int ab.1 t1, .int ab.2 t2]) ∈ news
structure PairsAt (news : List (Addr × Obj)) (vs : List Value) (ps : List (Int × Int)) : Prop where
  len : vs.length = ps.length
  at' : ∀ (i : Nat) (v : Value), vs[i]? = some v → ∃ ab, ps[i]? = some ab ∧ PairAt news v ab
  bnd : ∀ ab ∈ ps, (0 ≤ ab.1 ∧ ab.1 < 12) ∧ (0 ≤ ab.2 ∧ ab.2 < 12)
theorem envOf_locals {name : Str} {scope : Scope} {L a : Addr} {cd : Value} : (envOf name scope L a cd).locals = L := rfl
theorem newsTail {h₀ h : Heap} {L : Addr} {q : Addr × Obj} {news : List (Addr × Obj)} (N : News h₀ L h (q :: news)) : News h₀ L h news := fun p hp => N p (.tail _ hp)
theorem newsPick4 {h₀ h : Heap} {L : Addr} {t d b a : Addr × Obj} {news : List (Addr × Obj)} (N : News h₀ L h (t :: d :: b :: a :: news)) : News h₀ L h (a :: d :: news) := fun p hp => by
  rcases List.mem_cons.mp hp with rfl | hp
  · exact N _ (.tail _ (.tail _ (.tail _ (.head _))))
  · rcases List.mem_cons.mp hp with rfl | hp
    · exact N _ (.tail _ (.head _))
    · exact N _ (.tail _ (.tail _ (.tail _ (.tail _ hp))))
theorem off2 {la ls : Addr} {news : List (Addr × Obj)} (h1 : GnNe la news) (h2 : AllLt ls news) : OwnOff news [la, ls] := by
  have h1' : ∀ p ∈ news, p.1 ≠ la := by
    induction news with
    | nil => intro p hp; cases hp
    | cons q r ih =>
      intro p hp
      rcases List.mem_cons.mp hp with rfl | hp
      · exact h1.1
      · exact ih h1.2 h2.2 p hp
  intro p hp b hb
  rcases List.mem_cons.mp hb with rfl | hb
  · exact h1' p hp
  · rw [List.mem_singleton.mp hb]
    exact Nat.ne_of_lt (ktn_ltOf h2 p hp)
theorem off3 {la ls I : Addr} {news : List (Addr × Obj)} (h1 : OwnOff news [la, ls]) (h2 : ∀ q ∈ news, q.1 ≠ I) : OwnOff news [la, ls, I] := by
  intro p hp b hb
  rcases List.mem_cons.mp hb with rfl | hb
  · exact h1 p hp _ (.head _)
  · rcases List.mem_cons.mp hb with rfl | hb
    · exact h1 p hp _ (.tail _ (.head _))
    · rw [List.mem_singleton.mp hb]; exact h2 p hp
section
variable {prog : Program} {w : World} {K : Frag} {p : Program} {loose : List Str} {mean : ExcName → Option Value} {mg mb : Str → Option Value}
local macro_rules | `(tactic| k_is) => `(tactic| with_reducible assumption)
local macro_rules | `(tactic| k_mem) => `(tactic| assumption)
local macro_rules | `(tactic| walk_at "setItem ref int") => `(tactic| (
  k_here
  (with_reducible show wpAny _ _ (setItem (Value.ref _) (Value.int _ _) (Value.int _ _)) _ _ _)
  first
  | (k_dflt (refine' ksa_set ?k1 ?k2 ?k3 ?k4 ?k5 ?k6 ?k7 ?_; (case k1 => k_asm); (case k2 => k_asm); (case k3 => k_upd); (case k4 => with_reducible assumption); (case k5 => ksa_idx); (case k6 => ksa_idx); (case k7 => ksa_idx); k_whole); intro h' F' N' hi' hl' hs'; (try k_sweep))
  | ((rename News _ _ _ _ => sN); (replace sN := newsTail sN); walk_at "setItem ref int")))
local macro_rules | `(tactic| walk_at "call ref") => `(tactic| (
  k_here
  (with_reducible show wpAny _ _ (call (Value.ref 42) [Value.ref _, Value.int _ _]) _ _ _)
  k_dflt (refine' CallOk.use (head_ok (by assumption) ?m ?i ?w ?h0 ?h1) ?k1 ?k2 ?k3 ?k4 ?k5 ?kK ?kd ?ku ?_; (case k1 => k_asm); (case k2 => k_asm); (case k3 => k_asm); (case k4 => k_asm); (case k5 => k_asm); (case m => k_mem); (case i => assumption); (case w => assumption); (case h0 => first | assumption | omega); (case h1 => first | assumption | omega); (case kK => first | exact rfl | assumption); (case kd => ktr_room); (case ku => ktr_units))
  rintro r9 n9 h9 tk9 F9 N9 ⟨x9, t9, u9, e1, l9, ⟨⟨lo9, hi9⟩, ⟨lo8, hi8⟩⟩, e2⟩
  subst e1
  subst e2
  (try k_lt l9)
  (try k_sweep)
  (try dsimp only)
  (try k_fold)))
def JIn (ps : List (Int × Int)) (news : List (Addr × Obj)) (i : Nat) (m : Str → Option Value) (nx : List (Addr × Obj)) : Prop :=
  ∃ la ls va na vz nz jt, m (Str.ofString "above") = some (.ref la) ∧ m (Str.ofString "sizes") = some (.ref ls) ∧ m (Str.ofString "joined") = some (.int (joinedP (ps.take i)).jn jt) ∧
    nx = (la, listOf va.toArray na) :: (ls, listOf vz.toArray nz) :: news ∧ IntsAre va (joinedP (ps.take i)).ab ∧ IntsAre vz (joinedP (ps.take i)).sz ∧ @Ne Nat la ls ∧ OwnOff news [la, ls]
theorem jin_end {Q : Flow → Shared → Prop} {h₀ h' : Heap} {L I la ls : Addr} {it : Obj} {s₁ : Shared} {m' : Str → Option Value} {ps : List (Int × Int)} {news : List (Addr × Obj)} {i : Nat} {c' : JS} {va vz : List Value} {na nz : Nat} {jt : Tok} {tk : Nat}
    (F : Fr h₀ L h' m') (N : News h₀ L h' ((I, it) :: (la, listOf va.toArray na) :: (ls, listOf vz.toArray nz) :: news)) (hc : joinedP (ps.take (i + 1)) = c')
    (ha : m' (Str.ofString "above") = some (.ref la)) (hs : m' (Str.ofString "sizes") = some (.ref ls)) (hj : m' (Str.ofString "joined") = some (.int c'.jn jt)) (iA : IntsAre va c'.ab) (iZ : IntsAre vz c'.sz)
    (hne : @Ne Nat la ls) (hoff : OwnOff news [la, ls, I]) (h1 : @Ne Nat la I) (h2 : @Ne Nat ls I) : FPost h₀ L s₁ I it (JIn ps news (i + 1)) Q .next { s₁ with heap := h', toks := tk } := by
  subst hc
  refine ⟨h', tk, m', _, rfl, F, N, ?_, la, ls, va, na, vz, nz, jt, ha, hs, hj, rfl, iA, iZ, hne, fun q hq b hb => hoff q hq b ?_⟩
  · intro q hq
    rcases List.mem_cons.mp hq with rfl | hq
    · exact h1
    · rcases List.mem_cons.mp hq with rfl | hq
      · exact h2
      · exact hoff q hq I (.tail _ (.tail _ (.head _)))
  · rcases List.mem_cons.mp hb with rfl | hb
    · exact .head _
    · rw [List.mem_singleton.mp hb]; exact .tail _ (.head _)
theorem joined_ok (hK : KF K) {news : List (Addr × Obj)} {lp : Addr} {vs : List Value} {nn : Nat} {ps : List (Int × Int)} (hm : (lp, listOf vs.toArray nn) ∈ news) (hp : PairsAt news vs ps) :
   CallOk prog w K p loose mean mg mb 49 2 [.ref lp] news (fun r news' => ∃ x la ls va na vz nz t, r = .ref x ∧ @Ne Nat la ls ∧ OwnOff news [la, ls] ∧ (∀ q ∈ (la, listOf va.toArray na) :: (ls, listOf vz.toArray nz) :: news, q.1 < x) ∧
     IntsAre va (joinedP ps).ab ∧ IntsAre vz (joinedP ps).sz ∧ news' = (x, tupO [.ref la, .ref ls, .int (joinedP ps).jn t]) :: (la, listOf va.toArray na) :: (ls, listOf vz.toArray nz) :: news) := by
  obtain ⟨⟨doc, pm, ct, hO⟩, hC⟩ := hK.oJoined
  dsimp only [sJoined, bd, PySem.Challenge.pw_gm0001_01, tlS, hdS, fArgs, fBody, fScope] at hO
  have hnH := hK.nHead
  have hnR := hK.nRange
  have hkH := hK.oHead.keep
  have hnL := hK.nList
  intro dp un gd cn cs a ccd cl outer A₀ base h₀ L m s Q E B F X N T hk hd hu hret
  refine wpAny_call ?_
  k_dflt cell_enter
  k_steps
  (rename Fr _ _ _ _ => lF); (rename News _ _ _ _ => lN); (rename IntsAre _ (List.map _ _) => iA); (rename IntsAre _ (List.flatten _) => iZ); (rename GnNe _ _ => gA); rename _ ∧ _ ∧ AllLt _ _ => lA
  with_unfolding_all refine' For_turns lF ?_
  k_dflt (refine' ld lF rfl ?_)
  refine for_list (JIn ps news) (by with_unfolding_all rfl) lF (newsPick4 lN) (.tail _ (.tail _ hm)) rfl rfl ?h0 ?hk ?tn ?dn
  case h0 =>
    refine ⟨_, _, _, _, _, _, _, rfl, rfl, rfl, rfl, ?_, ?_, ?_, off2 gA lA.2.2⟩
    · simpa [rangeInts, joinedP, js0, Function.comp_def] using iA
    · simpa [joinedP, js0] using iZ
    · have := lA.2.1; omega
  case hk =>
    rintro i m nx ⟨la, ls, va, na, vz, nz, jt, _, _, _, rfl, _⟩; exact .tail _ (.tail _ hm)
  case tn =>
    clear lF lN iA iZ gA lA
    dsimp only [envOf_locals]
    rintro I it i v m₁ nx h tk hv ⟨la, ls, va, na, vz, nz, jt, ha, hs, hj, rfl, iA, iZ, hne, hoff⟩ offI F₁ N₁
    obtain ⟨⟨p1, p2⟩, hpi, x, t1, t2, rfl, hx⟩ := hp.at' i v hv
    have hb := hp.bnd _ (List.mem_of_getElem? hpi)
    dsimp only at hb hx
    obtain ⟨⟨hb1, hb2⟩, hb3, hb4⟩ := hb
    have hJ : JWf (joinedP (ps.take i)) := jwf (fun ab h => hp.bnd ab (List.mem_of_mem_take h))
    have hst : joinedP (ps.take (i + 1)) = (joinedP (ps.take i)).step (p1, p2) := by
      rw [List.take_add_one, hpi]; simp [joinedP]
    generalize joinedP (ps.take i) = c at *
    obtain ⟨hw, hzl, hzb⟩ := hJ
    have hwl := hw.len
    replace F₁ := fr_norm F₁ (norm3 hj hs ha)
    have hI1 : @Ne Nat la I := offI _ (.head _)
    have hI2 : @Ne Nat ls I := offI _ (.tail _ (.head _))
    have hoff3 : OwnOff news [la, ls, I] := off3 hoff fun q hq => offI q (.tail _ (.tail _ hq))
    clear hoff
    have hlA := iA.length
    have hlZ := iZ.length
    try k_fold
    k_steps
    · (rename Fr _ _ _ _ => F6); (rename News _ _ _ _ => N6); (rename @LT.lt Int _ _ _ => hlt); (rename @Ne Int _ _ => hd1)
      (rename IntsAre (List.set vz _ _) _ => hi2); (rename IntsAre (List.set va _ _) _ => hi1)
      refine jin_end F6 (newsTail (newsTail N6)) (hst.trans (?_ : _ = c.link _ _)) rfl rfl rfl hi1 hi2 hne hoff3 hI1 hI2
      unfold JS.step; rw [if_neg hd1, if_pos hlt]
    · (rename Fr _ _ _ _ => F6); (rename News _ _ _ _ => N6); (rename ¬ (@LT.lt Int _ _ _) => hlt); (rename @Ne Int _ _ => hd1)
      (rename IntsAre (List.set vz _ _) _ => hi2); (rename IntsAre (List.set va _ _) _ => hi1)
      refine jin_end F6 (newsTail (newsTail N6)) (hst.trans (?_ : _ = c.link _ _)) rfl rfl rfl hi1 hi2 hne hoff3 hI1 hI2
      unfold JS.step; rw [if_neg hd1, if_neg hlt]
    · (rename Fr _ _ _ _ => F6); (rename News _ _ _ _ => N6); (rename @Eq Int (headP _ _).1 _ => he)
      exact jin_end F6 (newsTail (newsTail (newsTail N6))) (hst.trans (by unfold JS.step; rw [if_pos he])) rfl rfl rfl iA iZ hne hoff3 hI1 hI2
  case dn =>
    clear lF lN iA iZ gA lA
    dsimp only [envOf_locals]
    rintro m₁ nx h tk ⟨la, ls, va, na, vz, nz, jt, ha, hs, hj, rfl, iA, iZ, hne, hoff⟩ F₁ N₁
    rw [hp.len, List.take_length] at hj iA iZ
    replace F₁ := fr_norm F₁ (norm3 hj hs ha)
    have hlt : ∀ q ∈ (la, listOf va.toArray na) :: (ls, listOf vz.toArray nz) :: news, q.1 < h.objs.size := fun q hq => Heap.lt_size (N₁ q hq).1
    try k_fold
    k_steps
    (rename Fr _ _ _ _ => F6); (rename News _ _ _ _ => N6)
    exact hret _ _ _ _ F6 N6 ⟨_, la, ls, va, na, vz, nz, jt, rfl, hne, hoff, hlt, iA, iZ, rfl⟩
end
end Mine
end
section
open PySem PySem.W PyProof.Rows PySem.Calls
set_option maxRecDepth 100000
set_option maxHeartbeats 0
set_option rowWalk.seconds 0
namespace Mine
section
variable {prog : Program} {w : World} {K : Frag} {p : Program} {loose : List Str} {mean : ExcName → Option Value} {mg mb : Str → Option Value}
local macro_rules | `(tactic| k_is) => `(tactic| with_reducible assumption)
local macro_rules | `(tactic| k_mem) => `(tactic| assumption)
local macro_rules | `(tactic| walk_at "mine lots") => `(tactic| assumption)
local macro_rules | `(tactic| walk_at "newTuple") => `(tactic| (
  k_here
  k_dflt (refine' newTuple_fr ?k1 ?k2 ?_ ?z; (case k1 => k_asm); (case k2 => k_asm); (case z => size_fits))
  intro x' h' F' N' l1
  (try k_lt l1)
  (try k_sweep)))
local macro_rules | `(tactic| walk_at "storeName") => `(tactic| (
  k_here
  (with_reducible rename NewPlain _ _ _ _ => gnP)
  k_dflt (have gnX := gn_enter gnP (by assumption) (by assumption) (by assumption))
  (obtain ⟨gnN, gnL, gnA⟩ := gnX)
  (first | (have gnI := gn_ints gnP (by assumption) (by intro _; rfl)) | (have gnI := gn_intsOf gnP (by assumption)) | skip)
  clear gnP
  (try simp only [GnNe, and_true] at gnA)
  (try k_sweep)))
theorem off_cells {ll L : Nat} {news : List (Addr × Obj)} (h1 : @Ne Nat (L + 1 + 1) ll ∧ @Ne Nat (L + 1) ll ∧ GnNe ll news) (h2 : ∀ q ∈ news, q.1 < L) : OwnOff news [ll, L + 1 + 1, L + 1] := by
  have h1' : ∀ (l : List (Addr × Obj)), GnNe ll l → ∀ q ∈ l, q.1 ≠ ll := by
    intro l
    induction l with
    | nil => intro _ p hp; cases hp
    | cons q r ih =>
      intro h p hp
      rcases List.mem_cons.mp hp with rfl | hp
      · exact h.1
      · exact ih h.2 p hp
  intro q hq b hb
  have hl : @LT.lt Nat _ q.1 L := h2 q hq
  rcases List.mem_cons.mp hb with rfl | hb
  · exact h1' _ h1.2.2 q hq
  · rcases List.mem_cons.mp hb with rfl | hb
    · exact neN (by omega)
    · rw [List.mem_singleton.mp hb]; exact neN (by omega)
theorem envOfC_locals {name : Str} {scope : Scope} {L a : Addr} {cd : Value} : (envOfC name scope L a cd).locals = L := rfl
theorem off4 {a b c I : Addr} {news : List (Addr × Obj)} (h1 : OwnOff news [a, b, c]) (h2 : ∀ q ∈ news, q.1 ≠ I) : OwnOff news [a, b, c, I] := by
  intro p hp x hx
  rcases List.mem_cons.mp hx with rfl | hx
  · exact h1 p hp _ (.head _)
  · rcases List.mem_cons.mp hx with rfl | hx
    · exact h1 p hp _ (.tail _ (.head _))
    · rcases List.mem_cons.mp hx with rfl | hx
      · exact h1 p hp _ (.tail _ (.tail _ (.head _)))
      · rw [List.mem_singleton.mp hx]; exact h2 p hp
def LIn (ps : List (Int × Int)) (news : List (Addr × Obj)) (L : Nat) (i : Nat) (m : Str → Option Value) (nx : List (Addr × Obj)) : Prop :=
  ∃ ll vl nl o1 o2 c1 c2, m (Str.ofString "lot") = some (.ref ll) ∧ nx = (ll, listOf vl.toArray nl) :: (L + 1 + 1, o1) :: (L + 1, o2) :: news ∧ IntsAre vl (lotsP (ps.take i)) ∧ o1.data = .cell c1 ∧ o2.data = .cell c2 ∧ OwnOff news [ll, L + 1 + 1, L + 1] ∧ @Ne Nat ll (L + 1 + 1) ∧ @Ne Nat ll (L + 1)
theorem ints_cast {vs : List Value} {a b : List Int} (h : IntsAre vs a) (e : a = b) : IntsAre vs b := e ▸ h
theorem Off1_mem {D : Addr} : ∀ {l : List (Addr × Obj)}, LCg.Off1 D l → ∀ q ∈ l, q.1 ≠ D
  | [], _, _, h => nomatch h
  | _ :: _, h, q, hq => by
    rcases List.mem_cons.mp hq with rfl | hq
    · exact h.1
    · exact Off1_mem h.2 q hq
theorem newsPick3 {h₀ h : Heap} {L : Addr} {a b c : Addr × Obj} {news : List (Addr × Obj)} (N : News h₀ L h (a :: b :: c :: news)) : News h₀ L h (a :: news) := fun p hp => by
  rcases List.mem_cons.mp hp with rfl | hp
  · exact N _ (.head _)
  · exact N _ (.tail _ (.tail _ (.tail _ hp)))
theorem lin_end {Q : Flow → Shared → Prop} {h₀ h' : Heap} {L I : Addr} {LL : Nat} {D x ll : Addr} {it xo lo o1 o2 : Obj} {s₁ : Shared} {m' : Str → Option Value} {ps : List (Int × Int)} {news : List (Addr × Obj)} {i : Nat} {c' : List Int} {ys : List Value} {tk : Nat} {c1 c2 : Option Value}
    (F : Fr h₀ L h' m') (N : News h₀ L h' ((D, LCg.lst ys) :: (x, xo) :: (I, it) :: (ll, lo) :: (LL + 1 + 1, o1) :: (LL + 1, o2) :: news)) (hc : lotsP (ps.take (i + 1)) = c')
    (ha : m' (Str.ofString "lot") = some (.ref D)) (iA : IntsAre ys c') (h1 : o1.data = .cell c1) (h2 : o2.data = .cell c2)
    (n1 : @Ne Nat D (LL + 1 + 1)) (n2 : @Ne Nat D (LL + 1)) (n3 : @Ne Nat I D) (n4 : @Ne Nat (LL + 1 + 1) I) (n5 : @Ne Nat (LL + 1) I) (hoff : OwnOff news [ll, LL + 1 + 1, LL + 1, I]) (offD : ∀ q ∈ news, q.1 ≠ D) : FPost h₀ L s₁ I it (LIn ps news LL (i + 1)) Q .next { s₁ with heap := h', toks := tk } := by
  subst hc
  refine ⟨h', tk, m', (D, LCg.lst ys) :: (LL + 1 + 1, o1) :: (LL + 1, o2) :: news, rfl, F, ?_, ?_, D, ys, ys.length, o1, o2, c1, c2, ha, rfl, iA, h1, h2, ?_, n1, n2⟩
  · intro p hp
    rcases List.mem_cons.mp hp with rfl | hp
    · exact N _ (.tail _ (.tail _ (.head _)))
    · rcases List.mem_cons.mp hp with rfl | hp
      · exact N _ (.head _)
      · exact N _ (.tail _ (.tail _ (.tail _ (.tail _ hp))))
  · intro q hq
    rcases List.mem_cons.mp hq with rfl | hq
    · exact Ne.symm n3
    · rcases List.mem_cons.mp hq with rfl | hq
      · exact n4
      · rcases List.mem_cons.mp hq with rfl | hq
        · exact n5
        · exact hoff q hq I (.tail _ (.tail _ (.tail _ (.head _))))
  · intro q hq b hb
    rcases List.mem_cons.mp hb with rfl | hb
    · exact offD q hq
    · rcases List.mem_cons.mp hb with rfl | hb
      · exact hoff q hq _ (.tail _ (.head _))
      · rw [List.mem_singleton.mp hb]; exact hoff q hq _ (.tail _ (.tail _ (.head _)))
theorem lots_ok (hK : KF K) {news : List (Addr × Obj)} {lp : Addr} {vs : List Value} {nn : Nat} {ps : List (Int × Int)} (hm : (lp, listOf vs.toArray nn) ∈ news) (hp : PairsAt news vs ps) :
   CallOk prog w K p loose mean mg mb 54 2 [.ref lp] news (fun r news' => ∃ ll vl nl, r = .ref ll ∧ (∀ q ∈ news, q.1 ≠ ll) ∧ IntsAre vl (lotsP ps) ∧ news' = (ll, listOf vl.toArray nl) :: news) := by
  obtain ⟨⟨doc, pm, ct, hO⟩, hC⟩ := hK.oLots
  dsimp only [sLots, bd, PySem.Challenge.pw_gm0001_01, tlS, hdS, fArgs, fBody, fScope] at hO
  have hnR := hK.nRange
  have hnL := hK.nList
  have hnm := hK.nMin
  have hnM := hK.nMax
  intro dp un gd cn cs a ccd cl outer A₀ base h₀ L m s Q E B F X N T hk hd hu hret
  refine wpAny_call ?_
  k_dflt (refine' code_defC ?k1 ?k2 ?k3 ?k4 ?k5 ?kA ?kF ?kK ?k6 ?k7 ?k8 ?k9 ?kB ?kD ?_ ?c2 ?c3 ?c4; (case kA => exact rfl); (case kF => exact rfl); (case kK => assumption); (case k1 => k_asm); (case k2 => k_asm); (case k3 => k_asm); (case k4 => k_asm); (case k5 => k_asm); (case k6 => k_is); (case k7 => k_is); (case k8 => ktr_room); (case k9 => exact BindsTo.of_eq rfl); (case kB => exact rfl); (case kD => decide +kernel); (case c2 => exact rfl); (case c3 => exact rfl); (case c4 => exact rfl))
  intro g1 LL h1 tk1 cells1 FG1 F1 N1 Y1 B1 X1 T1 lA
  k_cells Y1
  (try simp only [List.cons_append, List.nil_append] at N1)
  (try dsimp only)
  (try k_fold)
  k_steps
  (rename Fr _ _ _ _ => lF); (rename News _ _ _ _ => lN); (rename IntsAre _ _ => iA); (rename _ ∧ _ ∧ GnNe _ _ => gA)
  with_unfolding_all refine' For_turns lF ?_
  k_dflt (refine' nameX_L lF rfl ?_ rfl rfl)
  refine' for_list (LIn ps news LL) (by with_unfolding_all rfl) lF lN (.tail _ (.tail _ (.tail _ hm))) rfl rfl ?h0 ?hk ?tn ?dn
  case h0 =>
    refine' ⟨_, _, _, _, _, _, _, rfl, rfl, ?_, ?_, ?_, off_cells gA lA, Ne.symm gA.1, Ne.symm gA.2.1⟩
    rotate_left 2
    · simpa [rangeInts, lotsP, lots0, Function.comp_def] using iA
    · assumption
    · assumption
  case hk =>
    rintro i m nx ⟨ll, vl, nl, o1, o2, c1, c2, _, rfl, _⟩; exact .tail _ (.tail _ (.tail _ hm))
  case tn =>
    clear lF lN iA gA
    (try (rename Heap.IsList _ _ _ => hIL; clear hIL))
    dsimp only [envOfC_locals]
    rintro I it i v m₁ nx h tk hv ⟨ll, vl, nl, o1, o2, c1, c2, ha, rfl, iA, hc1, hc2, hoff, hn1, hn2⟩ offI F₁ N₁
    obtain ⟨⟨p1, p2⟩, hpi, x, t1, t2, rfl, hx⟩ := hp.at' i v hv
    have hb := hp.bnd _ (List.mem_of_getElem? hpi)
    dsimp only at hb hx
    obtain ⟨⟨hb1, hb2⟩, hb3, hb4⟩ := hb
    have hW : Wf (lotsP (ps.take i)) := lots_wf _ fun ab h => hp.bnd ab (List.mem_of_mem_take h)
    have hst : lotsP (ps.take (i + 1)) = lotStep (lotsP (ps.take i)) (p1, p2) := by
      rw [List.take_add_one, hpi]; simp [lotsP]
    generalize lotsP (ps.take i) = c at *
    have hwl := hW.len
    replace F₁ := fr_norm F₁ (norm1 ha)
    have hI1 : @Ne Nat ll I := offI _ (.head _)
    have hI2 : @Ne Nat (LL + 1 + 1) I := offI _ (.tail _ (.head _))
    have hI3 : @Ne Nat (LL + 1) I := offI _ (.tail _ (.tail _ (.head _)))
    have hoff3 : OwnOff news [ll, LL + 1 + 1, LL + 1, I] := off4 hoff fun q hq => offI q (.tail _ (.tail _ (.tail _ hq)))
    clear hoff
    have hlA := iA.length
    try k_fold
    k_steps
    (rename Fr _ _ _ _ => F6); (rename News _ _ _ _ => N6); (rename IntsAre _ (List.map _ c) => hi1); (rename _ ∧ _ ∧ _ ∧ _ ∧ _ ∧ LCg.Off1 _ _ => o1)
    obtain ⟨_, oD1, oD2, oD3, oD4, oD5⟩ := o1
    refine lin_end F6 N6 hst rfl ?_ (by assumption) (by assumption) (@Ne.symm Nat _ _ oD3) (@Ne.symm Nat _ _ oD4) oD1 hI2 hI3 hoff3 (Off1_mem oD5)
    refine ints_cast hi1 ?_
    unfold lotStep
    refine List.map_congr_left fun k _ => ?_
    dsimp only
    generalize c.getD p1.toNat 0 = a1
    generalize c.getD p2.toNat 0 = a2
    clear hi1 iA hW hst hwl hb1 hb2 hb3 hb4
    (try simp only [gt_iff_lt])
    (repeat' split) <;> omega
  case dn =>
    clear lF lN iA gA
    dsimp only [envOfC_locals]
    rintro m₁ nx h tk ⟨ll, vl, nl, o1, o2, c1, c2, ha, rfl, iA, hc1, hc2, hoff, hn1, hn2⟩ F₁ N₁
    rw [hp.len, List.take_length] at iA
    replace F₁ := fr_norm F₁ (norm1 ha)
    try k_fold
    k_steps
    (rename Fr _ _ _ _ => F6); (rename News _ _ _ _ => N6)
    refine hret _ _ _ _ F6 (newsPick3 N6) ⟨ll, vl, nl, rfl, ?_, iA, rfl⟩
    exact fun q hq => hoff q hq ll (.head _)
end
end Mine
end
section
open PySem PySem.W PyProof.Rows PySem.Calls
set_option maxRecDepth 100000
set_option maxHeartbeats 0
set_option rowWalk.seconds 0
namespace Mine
section
variable {prog : Program} {w : World} {K : Frag} {p : Program} {loose : List Str} {mean : ExcName → Option Value} {mg mb : Str → Option Value}
local macro_rules | `(tactic| k_is) => `(tactic| with_reducible assumption)
local macro_rules | `(tactic| k_mem) => `(tactic| assumption)
local macro_rules | `(tactic| walk_at "newTuple") => `(tactic| (
  k_here
  k_dflt (refine' newTuple_fr ?k1 ?k2 ?_ ?z; (case k1 => k_asm); (case k2 => k_asm); (case z => size_fits))
  intro x' h' F' N' l1
  (try k_lt l1)
  (try k_sweep)))
local macro_rules | `(tactic| walk_at "exec For Tuple Call cons nil") => `(tactic| (
  k_here
  (rename Fr _ _ _ _ => lF'); (rename News _ _ _ _ => lN')
  with_unfolding_all ((refine' For_turns lF' ?_); k_whole; (refine MethodCall_ ?_); (refine ld lF' (by rfl) ?_); (refine getMethod_tab (knd := PySem.strKind _ _) (enc := PyData.str) (D := []) PySem.F.slot_dict_items PySem.F.type_dict_items (by k_tabat) ?_); (refine callWith_method0 ?_); (refine call_items_tab (knd := PySem.strKind _ _) (enc := PyData.str) (D := []) (by k_tabat) lF' lN' ?_); intro h' o' hv' F' N'; (replace N' := kti_tail N'); (refine kti_items (knd := PySem.strKind _ _) (enc := PyData.str) (D := []) (xs := []) (by rfl) F' N' hv' (by k_tabat) (by k_mem) (fun _ _ h => Value.isStrOf_shape h) (by rfl) ?_))
  clear lF' lN'
  intro i' l1
  (try k_lt l1)))
/-- an empty dict -/
def EmptyD (prog : Program) (w : World) (d : Addr) (o : Obj) : Prop := (d == sysModules) = false ∧ o.IsDictOf (strKind prog w) [] ∧ o.IsDictOf (intKind prog w) []
theorem callers_ok (hK : KF K) {news : List (Addr × Obj)} {d1 d2 : Addr} {o1 o2 : Obj} (hm1 : (d1, o1) ∈ news) (hm2 : (d2, o2) ∈ news) (hd1 : EmptyD prog w d1 o1) (hd2 : EmptyD prog w d2 o2) :
   CallOk prog w K p loose mean mg mb 28 1 [.ref d1, .ref d2] news (fun r news' => ∃ x o, r = .ref x ∧ EmptyD prog w x o ∧ (∀ q ∈ news, q.1 < x) ∧ news' = (x, o) :: news) := by
  obtain ⟨⟨doc, pm, ct, hO⟩, hC⟩ := hK.oCallers
  dsimp only [sCallers, bd, PySem.Challenge.pw_gm0001_01, tlS, hdS, fArgs, fBody, fScope] at hO
  obtain ⟨hd1l, hd1s, hd1i⟩ := hd1
  obtain ⟨hd2l, hd2s, hd2i⟩ := hd2
  have hf : PyProof.V.FlatPairs PyData.str [] [] := .nil
  intro dp un gd cn cs a ccd cl outer A₀ base h₀ L m s Q E B F X N T hk hd hu hret
  refine wpAny_call ?_
  k_dflt cell_enter
  k_steps
  (rename Fr _ _ _ _ => F6); (rename News _ _ _ _ => N6); (rename ∀ p ∈ news, _ => l6)
  exact hret _ _ _ _ F6 N6 ⟨_, _, rfl, ⟨by assumption, by assumption, by assumption⟩, l6, rfl⟩
local macro_rules | `(tactic| walk_at "call ref") => `(tactic| (
  k_here
  (with_reducible show wpAny _ _ (call (Value.ref 28) [Value.ref _, Value.ref _]) _ _ _)
  k_dflt (refine' CallOk.use (callers_ok (by assumption) ?m1 ?m2 ?e1 ?e2) ?k1 ?k2 ?k3 ?k4 ?k5 ?kK ?kd ?ku ?_; (case k1 => k_asm); (case k2 => k_asm); (case k3 => k_asm); (case k4 => k_asm); (case k5 => k_asm); (case m1 => k_mem); (case m2 => k_mem); (case e1 => assumption); (case e2 => assumption); (case kK => first | exact rfl | assumption); (case kd => ktr_room); (case ku => ktr_units))
  rintro r9 n9 h9 tk9 F9 N9 ⟨x9, o9, e1, em9, l9, e2⟩
  subst e1
  subst e2
  (try k_lt l9)
  (try k_sweep)
  (try dsimp only)
  (try k_fold)))
theorem stats_ok (hK : KF K) {news : List (Addr × Obj)} {t s : Addr} {a1 a2 a3 a4 b1 b2 b3 b4 : Int} {ta1 ta2 ta3 ta4 tb1 tb2 tb3 tb4 : Tok} {d1 d2 : Addr} {o1 o2 : Obj}
   (hmt : (t, tupO [.int a1 ta1, .int a2 ta2, .int a3 ta3, .int a4 ta4, .ref d1]) ∈ news) (hms : (s, tupO [.int b1 tb1, .int b2 tb2, .int b3 tb3, .int b4 tb4, .ref d2]) ∈ news)
   (hm1 : (d1, o1) ∈ news) (hm2 : (d2, o2) ∈ news) (hd1 : EmptyD prog w d1 o1) (hd2 : EmptyD prog w d2 o2) :
   CallOk prog w K p loose mean mg mb 21 2 [.ref t, .ref s] news (fun r news' => ∃ x d o u1 u2 u3 u4, r = .ref x ∧ EmptyD prog w d o ∧ (∀ q ∈ news, q.1 < d) ∧ (∀ q ∈ (d, o) :: news, q.1 < x) ∧
     news' = (x, tupO [.int (b1 + a1) u1, .int (b2 + a2) u2, .int (b3 + a3) u3, .int (b4 + a4) u4, .ref d]) :: (d, o) :: news) := by
  obtain ⟨⟨doc, pm, ct, hO⟩, hC⟩ := hK.oStats
  have hnC := hK.nCallers
  have hkC := hK.oCallers.keep
  dsimp only [sFuncStats, bd, PySem.Challenge.pw_gm0001_01, tlS, hdS, fArgs, fBody, fScope] at hO
  intro dp un gd cn cs a ccd cl outer A₀ base h₀ L m s Q E B F X N T hk hd hu hret
  refine wpAny_call ?_
  k_dflt cell_enter
  k_steps
  (rename Fr _ _ _ _ => F6); (rename News _ _ _ _ => N6); (rename _ ∧ AllLt _ _ => l6); (rename ∀ q ∈ news, _ => l5); (rename EmptyD _ _ _ _ => e5)
  exact hret _ _ _ _ F6 N6 ⟨_, _, _, _, _, _, _, rfl, e5, l5, ktn_ltOf (l := (_, _) :: news) l6, rfl⟩
end
end Mine
end
section
open PySem PySem.W PyProof.Rows PySem.Calls
set_option maxRecDepth 100000
set_option maxHeartbeats 0
set_option rowWalk.seconds 0
namespace Mine
section
variable {prog : Program} {w : World} {K : Frag} {p : Program} {loose : List Str} {mean : ExcName → Option Value} {mg mb : Str → Option Value}
local macro_rules | `(tactic| k_is) => `(tactic| with_reducible assumption)
local macro_rules | `(tactic| k_mem) => `(tactic| assumption)
local macro_rules | `(tactic| walk_at "newTuple") => `(tactic| (
  k_here
  k_dflt (refine' newTuple_fr ?k1 ?k2 ?_ ?z; (case k1 => k_asm); (case k2 => k_asm); (case z => size_fits))
  intro x' h' F' N' l1
  (try k_lt l1)
  (try k_sweep)))
theorem ints_rep {z : Int} {t : Tok} : ∀ n : Nat, IntsAre (List.replicate n (.int z t)) (List.replicate n z)
  | 0 => .nil
  | n + 1 => .cons z t (ints_rep n)
structure DigN (n : Nat) : Prop where
theorem dig_mul {A : Around} {E : Value → Shared → Prop} {s : Shared} {h₀ : Heap} {L : Addr} {m : Str → Option Value} {news : List (Addr × Obj)} {l : Addr} {x z : Int} {u t : Tok} {n k : Nat} {Q : Value → Shared → Prop} (F : Fr h₀ L s.heap m) (N : News h₀ L s.heap news)
    (hN : DigN n) (hm : (l, listOf [Value.int z t].toArray k) ∈ news) (hx : x = (n : Int)) (hn : n ≤ 4)
    (h : ∀ D h', Fr h₀ L h' m → News h₀ L h' ((D, listOf (List.replicate n (Value.int z t)).toArray 0) :: news) → (∀ p ∈ news, p.1 < D) → IntsAre (List.replicate n (Value.int z t)) (List.replicate n z) → Q (.ref D) { s with heap := h' }) :
    wpAny (model prog w) A (binaryOp .Mult (.ref l) (.int x u)) Q E s := by
  subst hx
  refine KMa.mul F N (IsL.isList (n := k) (N _ hm).1) (by omega) (by omega) (by simp; omega) (ws := List.replicate n (Value.int z t)) (by simp) fun D h' F' N' l1 => h D h' F' N' l1 (ints_rep n)
local macro_rules | `(tactic| walk_at "binaryOp Mult ref int") => `(tactic| (
  k_here
  (with_reducible show wpAny _ _ (binaryOp Operator.Mult (Value.ref _) (Value.int _ _)) _ _ _)
  k_dflt (refine' dig_mul ?F ?N ?N9 ?m ?x ?n ?_; (case F => k_asm); (case N => k_asm); (case N9 => assumption); (case m => k_mem); (case x => (simp only [Int.fdiv_one]; omega)); (case n => assumption))
  intro D' h' F' N' l1 i1
  (try k_lt l1)
  (try k_sweep)))
abbrev CallOkC (prog : Program) (w : World) (K : Frag) (p : Program) (loose : List Str) (mean : ExcName → Option Value) (mg mb : Str → Option Value) (f : Addr) (need : Nat) (vs : List Value) (news : List (Addr × Obj)) (Post : Value → List (Addr × Obj) → Prop) : Prop :=
  ∀ (dp un : Nat) (gd : Option (List Code)) (cn : Str) (cs : Scope) (a : Addr) (ccd : Value) (cl : List (Str × Addr)) (outer : List Env) (A₀ : Around) (base h₀ : Heap) (L : Addr) (m : Str → Option Value) (s : Shared) (Q E : Value → Shared → Prop),
    Below A₀ base outer h₀ → Fr h₀ L s.heap m → K.In h₀ → News h₀ L s.heap news → Top p loose mean mg mb h₀ → CodeHd base 34 30 → cs.kind = .function → dp + need < recursionLimit → un + 8 * need < cLine →
    (∀ r news' h' tk', Fr h₀ L h' m → News h₀ L h' news' → Post r news' → Q r { s with heap := h', toks := tk' }) →
    wpAny (model prog w) (ktrTop dp un gd cn cs L a ccd cl outer) (call (.ref f) vs) Q E s
section
variable {A : Around} {E : Value → Shared → Prop} {s : Shared} {Q : Value → Shared → Prop} {a b x n : Int} {t u : Tok}
theorem dig_half (h : ∀ v : Int, 2 * v ≤ a → a < 2 * v + 2 → Q (.int v s.toks) { s with toks := s.toks + 1 }) : wpAny (model prog w) A (binaryOp .RShift (.int a t) (.int 1 u)) Q E s := by
  refine rshift_int (by omega) (h _ ?_ ?_)
  all_goals
    have e : a.fdiv (2 ^ (1 : Int).toNat) = a / 2 := by
      rw [show ((2 : Int) ^ (1 : Int).toNat) = 2 from rfl, Int.fdiv_eq_ediv_of_nonneg _ (by omega)]
    rw [e]; omega
theorem dig_shr (h0 : 0 ≤ a) (h1 : a < 16) (hn : 0 ≤ n) (h : ∀ v : Int, 0 ≤ v → v < 16 → v * 2 ^ n.toNat ≤ a → Q (.int v s.toks) { s with toks := s.toks + 1 }) : wpAny (model prog w) A (binaryOp .RShift (.int a t) (.int n u)) Q E s := by
  have hp : (0 : Int) < 2 ^ n.toNat := Int.pow_pos (by omega)
  have e : a.fdiv (2 ^ n.toNat) = a / 2 ^ n.toNat := Int.fdiv_eq_ediv_of_nonneg _ (Int.le_of_lt hp)
  refine rshift_int hn (h _ ?_ ?_ ?_)
  · rw [e]; exact Int.ediv_nonneg h0 (Int.le_of_lt hp)
  · rw [e]; exact Int.lt_of_le_of_lt (Int.ediv_le_self _ h0) h1
  · rw [e]; exact Int.ediv_mul_le _ (Int.ne_of_gt hp)
theorem dig_shl (hn : 0 ≤ n) (hn4 : n ≤ 4) (h0 : 0 ≤ a) (h1 : a < 16) (hle : a * 2 ^ n.toNat ≤ x) (hx : x < 16) (h : ∀ v : Int, 0 ≤ v → v < 16 → Q (.int v s.toks) { s with toks := s.toks + 1 }) : wpAny (model prog w) A (binaryOp .LShift (.int a t) (.int n u)) Q E s := by
  have hp : (0 : Int) < 2 ^ n.toNat := Int.pow_pos (by omega)
  refine lshift_int_small hn (by omega) (by omega) (h _ (Int.mul_nonneg h0 (Int.le_of_lt hp)) (by omega))
theorem xor16 : ∀ a b : Fin 16, 0 ≤ Builtin.bitXor (a.val : Int) (b.val : Int) ∧ Builtin.bitXor (a.val : Int) (b.val : Int) < 16 := by decide +kernel
theorem dig_xor (h0 : 0 ≤ a) (h1 : a < 16) (h2 : 0 ≤ b) (h3 : b < 16) (h : ∀ v : Int, 0 ≤ v → v < 16 → Q (.int v s.toks) { s with toks := s.toks + 1 }) : wpAny (model prog w) A (binaryOp .BitXor (.int a t) (.int b u)) Q E s := by
  have z := xor16 ⟨a.toNat, by omega⟩ ⟨b.toNat, by omega⟩
  rw [show ((a.toNat : Nat) : Int) = a by omega, show ((b.toNat : Nat) : Int) = b by omega] at z
  exact xor_int (h _ z.1 z.2)
theorem dig_mul1 (h : Q (.int a s.toks) { s with toks := s.toks + 1 }) : wpAny (model prog w) A (binaryOp .Mult (.int a t) (.int 1 u)) Q E s := by
  refine mul_int (by rw [Int.mul_one]; exact h) ?_
  have h' : ¬ (Builtin.Int.intBits 1 > shortFactorBits) := by decide
  unfold IntMulOk; rw [decide_eq_false h']; simp
end
local macro_rules | `(tactic| walk_at "binaryOp Mult int int") => `(tactic| (k_here; (with_reducible refine dig_mul1 ?_)))
local macro_rules | `(tactic| walk_at "binaryOp RShift int int") => `(tactic| (k_here; k_dflt (refine' dig_shr ?a1 ?a2 ?a3 ?_; (case a1 => omega); (case a2 => omega); (case a3 => omega)); intro v' hs1 hs2 hs3))
local macro_rules | `(tactic| walk_at "binaryOp RShift int int") => `(tactic| (k_here; (with_reducible refine dig_half ?_); intro v' hh1 hh2))
local macro_rules | `(tactic| walk_at "binaryOp LShift int int") => `(tactic| (k_here; k_dflt (refine' dig_shl ?a1 ?a2 ?a3 ?a4 ?a5 ?a6 ?_; (case a5 => assumption); (case a1 => omega); (case a2 => omega); (case a3 => omega); (case a4 => omega); (case a6 => omega)); intro v' hs1 hs2))
local macro_rules | `(tactic| walk_at "binaryOp BitXor int int") => `(tactic| (k_here; k_dflt (refine' dig_xor ?a1 ?a2 ?a3 ?a4 ?_; (case a1 => omega); (case a2 => omega); (case a3 => omega); (case a4 => omega)); intro v' hs1 hs2))
theorem CallOkC.use {f : Addr} {need : Nat} {vs : List Value} {news : List (Addr × Obj)} {Post : Value → List (Addr × Obj) → Prop}
    {dp un : Nat} {gd : Option (List Code)} {cn : Str} {cs : Scope} {a : Addr} {ccd : Value} {cl : List (Str × Addr)} {outer : List Env} {A₀ : Around} {base h₀ : Heap} {L : Addr} {m : Str → Option Value} {s : Shared} {Q E : Value → Shared → Prop}
    (C : CallOkC prog w K p loose mean mg mb f need vs news Post) (B : Below A₀ base outer h₀) (F : Fr h₀ L s.heap m) (X : K.In h₀) (N : News h₀ L s.heap news) (T : Top p loose mean mg mb h₀) (hc : CodeHd base 34 30) (hk : cs.kind = .function) (hd : dp + need < recursionLimit) (hu : un + 8 * need < cLine)
    (ret : ∀ r news' h' tk', Fr h₀ L h' m → News h₀ L h' news' → Post r news' → Q r { s with heap := h', toks := tk' }) :
    wpAny (model prog w) (ktrTop dp un gd cn cs L a ccd cl outer) (call (.ref f) vs) Q E s := C _ _ _ _ _ _ _ _ _ _ _ _ _ _ _ _ _ B F X N T hc hk hd hu ret
def sInner : Stmt := hdS (tlS (fBody sDigits))
def InnerC (prog : Program) (w : World) (K : Frag) (p : Program) (loose : List Str) (mean : ExcName → Option Value) (mg mb : Str → Option Value) (f D : Addr) (nd len : Nat) (rest : List (Addr × Obj)) (k : Nat) : Prop :=
  ∀ (x L R : Int) (tx tL tR : Tok) (vd : List Value) (nsd : List Int), R - L = k → 1 ≤ k → 0 ≤ x → x < 16 → 0 ≤ L → R ≤ len → IntsAre vd nsd → nsd.length = len →
    CallOkC prog w K p loose mean mg mb f k [.int x tx, .int L tL, .int R tR] ((D, listOf vd.toArray nd) :: rest) (fun r news' => r = .none ∧ ∃ vd' nsd', news' = (D, listOf vd'.toArray nd) :: rest ∧ IntsAre vd' nsd' ∧ nsd'.length = len)
theorem inner_ok {f D cN cA cI c' : Addr} {nd len : Nat} {rest : List (Addr × Obj)} {qual : Str} {dc pmv ctv : Value} {oc oN oA oI : Obj} {vs' : Array Value} {t' tn : Tok} (hlen : len ≤ 4)
   (hf : (f, fnMade (Str.ofString "inner") qual (fArgs sInner) (fBody sInner) (fScope sInner) [(Str.ofString "n", cN), (Str.ofString "inner", cI), (Str.ofString "a_digits", cA)] dc pmv c' ctv) ∈ rest)
   (hc : (c', oc) ∈ rest) (hd1 : oc.data = .fields vs') (hv1 : vs'[1]? = some (.str qual t')) (hN : (cN, oN) ∈ rest) (hdN : oN.data = .cell (some (.int 1 tn))) (hA : (cA, oA) ∈ rest) (hdA : oA.data = .cell (some (.ref D)))
   (hI : (cI, oI) ∈ rest) (hdI : oI.data = .cell (some (.ref f))) (hoff : ∀ q ∈ rest, q.1 ≠ D) : ∀ k, InnerC prog w K p loose mean mg mb f D nd len rest k := by
  have hoff' : OwnOff rest [D] := fun q hq b hb => by rw [List.mem_singleton.mp hb]; exact hoff q hq
  clear hoff
  intro k
  induction k using Nat.strongRecOn with
  | ind k IH =>
    intro x L R tx tL tR vd nsd hRL hk1 hx0 hx1 hL0 hR hi hil
    dsimp only [sInner, sDigits, bd, PySem.Challenge.pw_gm0001_01, tlS, hdS, fArgs, fBody, fScope] at hf
    intro dp un gd cn cs a' ccd cl outer A₀ base h₀ L₀ m s Q E B F X N T hCode hk hd hu hret
    refine wpAny_call ?_
    k_dflt (refine' code_nest ?k1 ?k2 ?k3 ?k4 ?k5 ?kA ?kF ?kK ?k6 ?k7 ?k8 ?k9 ?kB ?_ ?c2 ?c3 ?c4 ?c5; (case kA => exact rfl); (case kF => exact rfl); (case kK => assumption); (case k1 => k_asm); (case k2 => k_asm); (case k3 => k_asm); (case k4 => k_asm); (case k5 => k_asm); (case k6 => exact .tail _ hf); (case k7 => exact codeRec_news N (.tail _ hc) hd1 hv1); (case k8 => ktr_room); (case k9 => exact BindsTo.of_eq rfl); (case c5 => decide); (case kB => exact locs rfl); (case c2 => exact rfl); (case c3 => exact rfl); (case c4 => exact rfl))
    intro g' L' h' FG' F' N' B' X' T'
    (try dsimp only)
    (try k_lift B')
    (try k_fold)
    have IH' : ∀ (x L R : Int) (tx tL tR : Tok) (vd : List Value) (nsd : List Int), 1 ≤ R - L → R - L < k → 0 ≤ x → x < 16 → 0 ≤ L → R ≤ len → IntsAre vd nsd → nsd.length = len →
        CallOkC prog w K p loose mean mg mb f (R - L).toNat [.int x tx, .int L tL, .int R tR] ((D, listOf vd.toArray nd) :: rest) (fun r news' => r = .none ∧ ∃ vd' nsd', news' = (D, listOf vd'.toArray nd) :: rest ∧ IntsAre vd' nsd' ∧ nsd'.length = len) :=
      fun x L R tx tL tR vd nsd h1 h2 h3 h4 h5 h6 h7 h8 => IH (R - L).toNat (by omega) x L R tx tL tR vd nsd (by omega) (by omega) h3 h4 h5 h6 h7 h8
    k_with "call ref" => (
      (with_reducible show wpAny _ _ (call (Value.ref f) [Value.int _ _, Value.int _ _, Value.int _ _]) _ _ _)
      k_dflt (refine' CallOkC.use (IH' _ _ _ _ _ _ _ _ ?e1 ?lt ?x0 ?x1 ?l0 ?r0 ?i ?il) ?k1 ?k2 ?k3 ?k4 ?k5 ?k6 ?kK ?kd ?ku ?_)
      case k1 => k_asm
      case k2 => k_asm
      case k3 => k_asm
      case k4 => k_asm
      case k5 => k_asm
      case k6 => assumption
      case i => assumption
      case il => omega
      case lt => omega
      case e1 => omega
      case x0 => omega
      case x1 => omega
      case l0 => omega
      case r0 => omega
      case kK => first | exact rfl | assumption
      case kd => (simp only [depth_deeper] at *; dsimp only [ktrTop] at *; omega)
      case ku => (simp only [units_deeper] at *; dsimp only [ktrTop] at *; omega)
      rintro r9 n9 h9 tk9 F9 N9 ⟨rfl, vd9, ns9, rfl, i9, l9⟩
      (try k_sweep)
      (try dsimp only)
      (try k_fold))
    k_steps
    k_with_none
    · exact hret _ _ _ _ (by assumption) (by assumption) ⟨rfl, _, _, rfl, by assumption, by omega⟩
    · exact hret _ _ _ _ (by assumption) (by assumption) ⟨rfl, _, _, rfl, by assumption, by omega⟩
theorem off_dig {L : Nat} {news : List (Addr × Obj)} (h1 : OwnOff news [30]) (h2 : ∀ q ∈ news, q.1 < L) : OwnOff news [30, L + 1, L + 1 + 1, L + 1 + 1 + 1] := by
  intro q hq b hb
  have hl : @LT.lt Nat _ q.1 L := h2 q hq
  rcases List.mem_cons.mp hb with rfl | hb
  · exact h1 q hq _ (.head _)
  · rcases List.mem_cons.mp hb with rfl | hb
    · exact neN (by omega)
    · rcases List.mem_cons.mp hb with rfl | hb
      · exact neN (by omega)
      · rw [List.mem_singleton.mp hb]; exact neN (by omega)
theorem len_led {A : Around} {E : Value → Shared → Prop} {s : Shared} {h₀ : Heap} {L : Addr} {news : List (Addr × Obj)} {l : Addr} {vs : List Value} {k : Nat} {ns : List Int} {Q : Value → Shared → Prop} (N : News h₀ L s.heap news) (hm : (l, listOf vs.toArray k) ∈ news) (hi : IntsAre vs ns) (hs : ns.length ≤ 1000)
    (h : ∀ t tk, Q (.int (ns.length : Int) t) { s with toks := tk }) : wpAny (model prog w) A (call (.builtin "len") [.ref l]) Q E s := by
  have e : vs.toArray.size = ns.length := by rw [List.size_toArray]; exact hi.length
  refine len_list (IsL.isList (n := k) (N _ hm).1) (by omega) ?_
  rw [e]
  exact h _ _
local macro_rules | `(tactic| walk_at "call builtin:len") => `(tactic| (
  k_here
  (with_reducible show wpAny _ _ (call (Value.builtin "len") [Value.ref _]) _ _ _)
  k_dflt (refine' len_led ?N ?m ?i ?z ?_; (case N => k_asm); (case m => k_mem); (case i => assumption); (case z => ((try simp only [List.length_replicate]); omega)))
  intro t' tk'
  (try simp only [List.length_replicate])))
theorem all_ne {D : Addr} {news : List (Addr × Obj)} (h : AllLt D news) : ∀ q ∈ news, q.1 ≠ D := fun q hq => Nat.ne_of_lt (ktn_ltOf h q hq)
theorem newsSwap2 {h₀ h : Heap} {L : Addr} {a b : Addr × Obj} {r : List (Addr × Obj)} (N : News h₀ L h (a :: b :: r)) : News h₀ L h (b :: a :: r) := fun p hp => by
  rcases List.mem_cons.mp hp with rfl | hp
  · exact N _ (.tail _ (.head _))
  · rcases List.mem_cons.mp hp with rfl | hp
    · exact N _ (.head _)
    · exact N _ (.tail _ (.tail _ hp))
theorem newsSwap {h₀ h : Heap} {L : Addr} {a b c : Addr × Obj} {r : List (Addr × Obj)} (N : News h₀ L h (a :: b :: c :: r)) : News h₀ L h (c :: a :: b :: r) := fun p hp => by
  rcases List.mem_cons.mp hp with rfl | hp
  · exact N _ (.tail _ (.tail _ (.head _)))
  · rcases List.mem_cons.mp hp with rfl | hp
    · exact N _ (.head _)
    · rcases List.mem_cons.mp hp with rfl | hp
      · exact N _ (.tail _ (.head _))
      · exact N _ (.tail _ (.tail _ (.tail _ hp)))
def innerPos : Pos := match sInner with
  | .FunctionDef _ _ _ _ _ _ _ _ _ p => p
  | _ => ⟨0, 0, 0, 0⟩
def qualI : Str := qualnameIn (envOfC (Str.ofString "_int2digits") (fScope sDigits) 0 35 (.ref 34)) (Str.ofString "inner") (Str.ofString "inner")
def TabSome (o : Obj) : Prop := ∃ vs t, o.data = .fields vs ∧ vs[1]? = some (.str qualI t)
/-- the table of the codes made, before and behind the first call -/
def tabLed : Option (Addr × Obj) → List (Addr × Obj)
  | none => [(30, tabObj #[])]
  | some (c, o) => [(30, tabObj #[rawInt innerPos.line, rawInt innerPos.col, .ref c]), (c, o)]
def TabOk : Option (Addr × Obj) → List (Addr × Obj) → Prop
  | none, news => OwnOff news [30]
  | some (c, o), news => TabSome o ∧ @Ne Nat c 30 ∧ OwnOff news [30, c]
theorem digits_ok0 (hK : KF K) {news : List (Addr × Obj)} {a : Int} {ta tn : Tok} {nb : Nat} (h0 : 1 ≤ a) (h1 : a ≤ 12) (hb : Builtin.Int.intBits a = nb) (hb1 : 1 ≤ nb) (hb4 : nb ≤ 4) (hoff : OwnOff news [30]) :
   CallOkC prog w K p loose mean mg mb 35 6 [.int a ta, .int 1 tn] ((30, tabObj #[]) :: news) (fun r news' => ∃ D, ∃ vd : List Value, ∃ nd c o, r = .ref D ∧ vd.length = nb ∧ TabOk (some (c, o)) news ∧ (∀ q ∈ tabLed (some (c, o)) ++ news, q.1 ≠ D) ∧ news' = (D, listOf vd.toArray nd) :: (tabLed (some (c, o)) ++ news)) := by
  obtain ⟨⟨doc, pm, ct, hO⟩, hC⟩ := hK.oDigits
  dsimp only [sDigits, bd, PySem.Challenge.pw_gm0001_01, tlS, hdS, fArgs, fBody, fScope] at hO
  have hnL := hK.nLen
  intro dp un gd cn cs a' ccd cl outer A₀ base h₀ L m s Q E B F X N T hCode hk hd hu hret
  refine wpAny_call ?_
  k_dflt (refine' code_defC ?k1 ?k2 ?k3 ?k4 ?k5 ?kA ?kF ?kK ?k6 ?k7 ?k8 ?k9 ?kB ?kD ?_ ?c2 ?c3 ?c4; (case kA => exact rfl); (case kF => exact rfl); (case kK => assumption); (case k1 => k_asm); (case k2 => k_asm); (case k3 => k_asm); (case k4 => k_asm); (case k5 => k_asm); (case k6 => k_is); (case k7 => k_is); (case k8 => ktr_room); (case k9 => exact BindsTo.of_eq rfl); (case kB => exact rfl); (case kD => decide +kernel); (case c2 => exact rfl); (case c3 => exact rfl); (case c4 => exact rfl))
  intro g1 LL h1 tk1 cells1 FG1 F1 N1 Y1 B1 X1 T1 lA
  k_cells Y1
  (try simp only [List.cons_append, List.nil_append] at N1)
  (try dsimp only)
  (try k_lift B1)
  (try k_fold)
  have hN9 : DigN nb := ⟨⟩
  have h30 : @LT.lt Nat _ 30 LL := lA _ (.head _)
  have hoffC : OwnOff news [30, LL + 1, LL + 1 + 1, LL + 1 + 1 + 1] := off_dig hoff fun q hq => lA q (.tail _ hq)
  have hlA : ∀ q ∈ news, @LT.lt Nat _ q.1 LL := fun q hq => lA q (.tail _ hq)
  clear lA
  k_steps
  rotate_left
  · exfalso; (rename @Eq Int _ 0 => ha); omega
  (rename News _ _ _ _ => N5); (replace N5 := newsSwap N5)
  k_dflt (refine' CallOkC.use (inner_ok (len := nb) hb4 ?hf ?hc ?hd1 ?hv1 ?hN ?hdN ?hA ?hdA ?hI ?hdI ?hoff nb _ _ _ _ _ _ _ _ ?eRL ?e1 ?x0 ?x1 ?l0 ?r0 ?i ?il) ?k1 ?k2 ?k3 N5 ?k5 ?k6 ?kK ?kd ?ku ?_)
  case k1 => k_asm
  case k2 => k_asm
  case k3 => k_asm
  case k5 => k_asm
  case k6 => assumption
  case hf => k_mem
  case hc => k_mem
  case hd1 => assumption
  case hv1 => assumption
  case hN => k_mem
  case hdN => assumption
  case hA => k_mem
  case hdA => assumption
  case hI => k_mem
  case hdI => assumption
  case hoff =>
    (rename _ ∧ _ ∧ _ ∧ _ ∧ _ ∧ AllLt _ _ => lD)
    have lDn := lD.2.2.2.2.2
    refine List.forall_mem_cons.mpr ⟨by k_ne, List.forall_mem_cons.mpr ⟨by k_ne, List.forall_mem_cons.mpr ⟨by k_ne, List.forall_mem_cons.mpr ⟨by k_ne, List.forall_mem_cons.mpr ⟨by k_ne, List.forall_mem_cons.mpr ⟨by k_ne, List.forall_mem_cons.mpr ⟨by k_ne, all_ne lDn⟩⟩⟩⟩⟩⟩⟩
  case eRL => omega
  case e1 => omega
  case x0 => omega
  case x1 => omega
  case l0 => omega
  case r0 => omega
  case i => assumption
  case il => simp
  case kK => first | exact rfl | assumption
  case kd => ktr_room
  case ku => ktr_units
  rintro r9 n9 h9 tk9 F9 N9 ⟨rfl, vd9, ns9, rfl, i9, l9⟩
  (try k_sweep)
  (try dsimp only)
  (try k_fold)
  k_steps
  (rename Fr _ _ _ _ => F6); (rename News _ _ _ _ => N6); (rename _ ∧ _ ∧ _ ∧ _ ∧ _ ∧ AllLt _ _ => lD); (rename _ ∧ _ ∧ _ ∧ _ ∧ _ ∧ _ ∧ AllLt _ _ => lC)
  obtain ⟨lC1, _, _, _, _, lC2, lC3⟩ := lC
  obtain ⟨_, _, _, _, lD2, lD3⟩ := lD
  refine hret _ _ _ _ F6 ?_ ⟨_, vd9, 0, _, _, rfl, i9.length.trans l9, ⟨⟨_, _, by assumption, by assumption⟩, @Ne.symm Nat _ _ (Nat.ne_of_lt lC2), ?_⟩, ?_, rfl⟩
  · intro q hq
    rcases List.mem_cons.mp hq with rfl | hq
    · exact N6 _ (.head _)
    · rcases List.mem_cons.mp hq with rfl | hq
      · exact N6 _ (.tail _ (.tail _ (.tail _ (.tail _ (.tail _ (.tail _ (.tail _ (.head _))))))))
      · rcases List.mem_cons.mp hq with rfl | hq
        · exact N6 _ (.tail _ (.tail _ (.head _)))
        · exact N6 _ (.tail _ (.tail _ (.tail _ (.tail _ (.tail _ (.tail _ (.tail _ (.tail _ hq))))))))
  · intro q hq b hb
    rcases List.mem_cons.mp hb with rfl | hb
    · exact hoff q hq _ (.head _)
    · rw [List.mem_singleton.mp hb]; exact all_ne lC3 q hq
  · refine List.forall_mem_cons.mpr ⟨Nat.ne_of_lt lD2, List.forall_mem_cons.mpr ⟨@Ne.symm Nat _ _ (Nat.ne_of_lt lC1), all_ne lD3⟩⟩
theorem digits_ok1 (hK : KF K) {news : List (Addr × Obj)} {a : Int} {ta tn : Tok} {nb : Nat} (h0 : 1 ≤ a) (h1 : a ≤ 12) (hb : Builtin.Int.intBits a = nb) (hb1 : 1 ≤ nb) (hb4 : nb ≤ 4) {c : Addr} {oc : Obj} (hts : TabSome oc) (hc30 : @Ne Nat c 30) (hoff : OwnOff news [30, c]) :
   CallOkC prog w K p loose mean mg mb 35 6 [.int a ta, .int 1 tn] (tabLed (some (c, oc)) ++ news) (fun r news' => ∃ D, ∃ vd : List Value, ∃ nd c o, r = .ref D ∧ vd.length = nb ∧ TabOk (some (c, o)) news ∧ (∀ q ∈ tabLed (some (c, o)) ++ news, q.1 ≠ D) ∧ news' = (D, listOf vd.toArray nd) :: (tabLed (some (c, o)) ++ news)) := by
  obtain ⟨⟨doc, pm, ct, hO⟩, hC⟩ := hK.oDigits
  dsimp only [sDigits, bd, PySem.Challenge.pw_gm0001_01, tlS, hdS, fArgs, fBody, fScope] at hO
  have hnL := hK.nLen
  obtain ⟨cvs, ctk, hcd, hcv⟩ := hts
  dsimp only [innerPos, sInner, sDigits, bd, PySem.Challenge.pw_gm0001_01, tlS, hdS, fArgs, fBody, fScope, tabLed, List.cons_append, List.nil_append]
  intro dp un gd cn cs a' ccd cl outer A₀ base h₀ L m s Q E B F X N T hCode hk hd hu hret
  refine wpAny_call ?_
  k_dflt (refine' code_defC ?k1 ?k2 ?k3 ?k4 ?k5 ?kA ?kF ?kK ?k6 ?k7 ?k8 ?k9 ?kB ?kD ?_ ?c2 ?c3 ?c4; (case kA => exact rfl); (case kF => exact rfl); (case kK => assumption); (case k1 => k_asm); (case k2 => k_asm); (case k3 => k_asm); (case k4 => k_asm); (case k5 => k_asm); (case k6 => k_is); (case k7 => k_is); (case k8 => ktr_room); (case k9 => exact BindsTo.of_eq rfl); (case kB => exact rfl); (case kD => decide +kernel); (case c2 => exact rfl); (case c3 => exact rfl); (case c4 => exact rfl))
  intro g1 LL h1 tk1 cells1 FG1 F1 N1 Y1 B1 X1 T1 lA
  k_cells Y1
  (try simp only [List.cons_append, List.nil_append] at N1)
  (try dsimp only)
  (try k_lift B1)
  (try k_fold)
  have hN9 : DigN nb := ⟨⟩
  have h30 : @LT.lt Nat _ 30 LL := lA _ (.head _)
  have hcL : @LT.lt Nat _ c LL := lA _ (.tail _ (.head _))
  have hoffC : OwnOff news [30, LL + 1, LL + 1 + 1, LL + 1 + 1 + 1] := off_dig (fun q hq b hb => hoff q hq b (by rw [List.mem_singleton.mp hb]; exact .head _)) fun q hq => lA q (.tail _ (.tail _ hq))
  clear lA
  k_steps
  rotate_left
  · exfalso; (rename @Eq Int _ 0 => ha); omega
  (rename News _ _ _ _ => N5); (replace N5 := newsSwap2 N5)
  k_dflt (refine' CallOkC.use (inner_ok (len := nb) hb4 ?hf ?hc ?hd1 ?hv1 ?hN ?hdN ?hA ?hdA ?hI ?hdI ?hoff nb _ _ _ _ _ _ _ _ ?eRL ?e1 ?x0 ?x1 ?l0 ?r0 ?i ?il) ?k1 ?k2 ?k3 N5 ?k5 ?k6 ?kK ?kd ?ku ?_)
  case k1 => k_asm
  case k2 => k_asm
  case k3 => k_asm
  case k5 => k_asm
  case k6 => assumption
  case hf => k_mem
  case hc => k_mem
  case hd1 => assumption
  case hv1 => assumption
  case hN => k_mem
  case hdN => assumption
  case hA => k_mem
  case hdA => assumption
  case hI => k_mem
  case hdI => assumption
  case hoff =>
    (rename _ ∧ _ ∧ _ ∧ _ ∧ _ ∧ _ ∧ AllLt _ _ => lD)
    have lDn := lD.2.2.2.2.2.2
    refine List.forall_mem_cons.mpr ⟨by k_ne, List.forall_mem_cons.mpr ⟨by k_ne, List.forall_mem_cons.mpr ⟨by k_ne, List.forall_mem_cons.mpr ⟨by k_ne, List.forall_mem_cons.mpr ⟨by k_ne, List.forall_mem_cons.mpr ⟨by k_ne, List.forall_mem_cons.mpr ⟨by k_ne, all_ne lDn⟩⟩⟩⟩⟩⟩⟩
  case eRL => omega
  case e1 => omega
  case x0 => omega
  case x1 => omega
  case l0 => omega
  case r0 => omega
  case i => assumption
  case il => simp
  case kK => first | exact rfl | assumption
  case kd => ktr_room
  case ku => ktr_units
  rintro r9 n9 h9 tk9 F9 N9 ⟨rfl, vd9, ns9, rfl, i9, l9⟩
  (try k_sweep)
  (try dsimp only)
  (try k_fold)
  k_steps
  (rename Fr _ _ _ _ => F6); (rename News _ _ _ _ => N6); (rename _ ∧ _ ∧ _ ∧ _ ∧ _ ∧ _ ∧ AllLt _ _ => lD)
  obtain ⟨_, _, _, _, lD2, lD4, lD3⟩ := lD
  refine hret _ _ _ _ F6 ?_ ⟨_, vd9, 0, _, _, rfl, i9.length.trans l9, ⟨⟨_, _, hcd, hcv⟩, hc30, hoff⟩, ?_, rfl⟩
  · intro q hq
    rcases List.mem_cons.mp hq with rfl | hq
    · exact N6 _ (.head _)
    · exact N6 _ (.tail _ (.tail _ (.tail _ (.tail _ (.tail _ (.tail _ hq))))))
  · refine List.forall_mem_cons.mpr ⟨Nat.ne_of_lt lD2, List.forall_mem_cons.mpr ⟨Nat.ne_of_lt lD4, all_ne lD3⟩⟩
abbrev DigPost (nb : Nat) (news : List (Addr × Obj)) (r : Value) (news' : List (Addr × Obj)) : Prop :=
  ∃ D, ∃ vd : List Value, ∃ nd c o, r = .ref D ∧ vd.length = nb ∧ TabOk (some (c, o)) news ∧ (∀ q ∈ tabLed (some (c, o)) ++ news, q.1 ≠ D) ∧ news' = (D, listOf vd.toArray nd) :: (tabLed (some (c, o)) ++ news)
theorem digits_ok (hK : KF K) {news : List (Addr × Obj)} {a : Int} {ta tn : Tok} {nb : Nat} (h0 : 1 ≤ a) (h1 : a ≤ 12) (hb : Builtin.Int.intBits a = nb) (hb1 : 1 ≤ nb) (hb4 : nb ≤ 4) {τ : Option (Addr × Obj)} (ht : TabOk τ news) :
   CallOkC prog w K p loose mean mg mb 35 6 [.int a ta, .int 1 tn] (tabLed τ ++ news) (DigPost nb news) := by
  match τ, ht with
  | none, ht => exact digits_ok0 hK h0 h1 hb hb1 hb4 ht
  | some (c, o), ht => exact digits_ok1 hK h0 h1 hb hb1 hb4 ht.1 ht.2.1 ht.2.2
end
end Mine
end
section
open PySem PySem.W PyProof.Rows PySem.Calls
set_option maxRecDepth 100000
set_option maxHeartbeats 1000000
namespace Mine
/-- a turn's end of a comprehension (the library's CompEnd, kept from its own lines) -/
def CEnd (h₀ : Heap) (L : Addr) (m : Str → Option Value) (s₁ : Shared) (I : Addr) (oI : Obj) (C : Addr) (oC : Obj) (D : Addr) (oD : Obj) (J : Value → List (Addr × Obj) → Prop) (y : Value) (s₂ : Shared) : Prop :=
  ∃ h' tk nx, s₂ = { s₁ with heap := h', toks := tk } ∧ Fr h₀ L h' m ∧ News h₀ L h' ((I, oI) :: (C, oC) :: (D, oD) :: nx) ∧ (∀ p ∈ nx, p.1 ≠ I ∧ p.1 ≠ C ∧ p.1 ≠ D) ∧ J y nx
theorem cend_of {h₀ h' : Heap} {L : Addr} {m : Str → Option Value} {s₁ : Shared} {I C D : Addr} {oI oC oD : Obj} {J : Value → List (Addr × Obj) → Prop} {y : Value} {tk : Nat} {nx : List (Addr × Obj)} (F : Fr h₀ L h' m) (N : News h₀ L h' ((I, oI) :: (C, oC) :: (D, oD) :: nx))
    (off : ∀ p ∈ nx, p.1 ≠ I ∧ p.1 ≠ C ∧ p.1 ≠ D) (hj : J y nx) : CEnd h₀ L m s₁ I oI C oC D oD J y { s₁ with heap := h', toks := tk } := ⟨h', tk, nx, rfl, F, N, off, hj⟩
theorem newsSub {h₀ h : Heap} {L : Addr} {l l' : List (Addr × Obj)} (N : News h₀ L h l) (hs : ∀ p ∈ l', p ∈ l) : News h₀ L h l' := fun p hp => N p (hs p hp)
section
variable {prog : Program} {w : World} {A : Around} {h₀ : Heap} {L : Addr} {m : Str → Option Value} {env : Env} {ct elt : Expr} {x : Str} {scope : Scope} {cl : List (Str × Addr)} {s : Shared} {S : List (Addr × Obj) → Prop} {P : Nat → Value → Prop} {Fin : List Value → List (Addr × Obj) → Prop} {news : List (Addr × Obj)}
theorem cend_up {s₁ : Shared} {I C D : Addr} {oI oC oD : Obj} {J J' : Value → List (Addr × Obj) → Prop} {y : Value} {s₂ : Shared} (hS : ∀ y nx, J y nx → S nx) (hJ : ∀ y nx, J y nx → J' y nx)
    (h : CEnd h₀ L m s₁ I oI C oC D oD J y s₂) : LCg.CompEnd h₀ L m s₁ I oI C oC D oD S J' y s₂ := by
  obtain ⟨h', tk, nx, e, F, N, off, hj⟩ := h
  exact ⟨h', tk, nx, e, F, N, LCg.Off3.of off, hS _ _ hj, hJ _ _ hj⟩
theorem comp_inv (J : Nat → List Value → List (Addr × Obj) → Prop) (n : Nat) (hS : ∀ i ys nx, J i ys nx → S nx)
    (turn : ∀ i v ys nx I oI C oC D m₂ h tk (E' : Value → Shared → Prop), i < n → P i v → J i ys nx → LCg.NsObj oC m₂ → m₂ x = some v → Fr h₀ L h m → News h₀ L h ((I, oI) :: (C, oC) :: (D, LCg.lst ys) :: nx) → (∀ p ∈ nx, p.1 ≠ I ∧ p.1 ≠ C ∧ p.1 ≠ D) → ((@Ne Nat I C) ∧ (@Ne Nat I D) ∧ (@Ne Nat C D)) →
      wpAny (model prog w) A (eval elt (compEnvC scope cl C env)) (CEnd h₀ L m { s with heap := h, toks := tk } I oI C oC D (LCg.lst ys) (fun y nx' => J (i + 1) (ys ++ [y]) nx')) E' { s with heap := h, toks := tk })
    (fin : ∀ ys nx, J n ys nx → Fin ys nx) : ∀ (k i : Nat) (ys : List Value) (nx : List (Addr × Obj)), i + k = n → J i ys nx → LCg.CompRest prog w A h₀ L m env elt x scope cl s S P Fin k i ys nx
  | 0, i, ys, nx, e, hj => by
    have e' : i = n := by omega
    subst e'
    exact LCg.CompRest.zero (fin ys nx hj)
  | k + 1, i, ys, nx, e, hj => by
    refine LCg.CompRest.succ ?_
    intro v I oI C oC D m₂ h tk E' hv hC hx F N off ne
    refine wpAny_mono (turn i v ys nx I oI C oC D m₂ h tk E' (by omega) hv hj hC hx F N off.mem ne) (fun y s₂ hq => ?_) fun _ _ e => e
    exact cend_up (fun y nx hj => hS _ _ _ hj) (fun y nx hj => comp_inv J n hS turn fin k (i + 1) _ _ (by omega) hj) hq
theorem compT_inv (J : Nat → List Value → List (Addr × Obj) → Prop) (n : Nat) (hS : ∀ i ys nx, J i ys nx → S nx)
    (turn : ∀ i v ys nx I oI C oC D m₂ h tk (E' : Value → Shared → Prop), i < n → P i v → J i ys nx → LCg.NsObj oC m₂ → m₂ x = some v → Fr h₀ L h m → News h₀ L h ((I, oI) :: (C, oC) :: (D, LCg.lst ys) :: nx) → (∀ p ∈ nx, p.1 ≠ I ∧ p.1 ≠ C ∧ p.1 ≠ D) → ((@Ne Nat I C) ∧ (@Ne Nat I D) ∧ (@Ne Nat C D)) →
      wpAny (model prog w) A (isTrue ct (compEnvC scope cl C env) (eval ct (compEnvC scope cl C env))) (fun ok s' => if ok = true then
        wpAny (model prog w) A (eval elt (compEnvC scope cl C env)) (CEnd h₀ L m { s with heap := h, toks := tk } I oI C oC D (LCg.lst ys) (fun y nx' => J (i + 1) (ys ++ [y]) nx')) E' s'
        else CEnd h₀ L m { s with heap := h, toks := tk } I oI C oC D (LCg.lst ys) (fun _ nx' => J (i + 1) ys nx') Value.none s') E' { s with heap := h, toks := tk })
    (fin : ∀ ys nx, J n ys nx → Fin ys nx) : ∀ (k i : Nat) (ys : List Value) (nx : List (Addr × Obj)), i + k = n → J i ys nx → LCt.CompRestT prog w A h₀ L m env ct elt x scope cl s S P Fin k i ys nx
  | 0, i, ys, nx, e, hj => by
    have e' : i = n := by omega
    subst e'
    exact LCt.CompRestT.zero (fin ys nx hj)
  | k + 1, i, ys, nx, e, hj => by
    refine LCt.CompRestT.succ ?_
    intro v I oI C oC D m₂ h tk E' hv hC hx F N off ne
    refine wpAny_mono (turn i v ys nx I oI C oC D m₂ h tk E' (by omega) hv hj hC hx F N off.mem ne) (fun ok s₂ hq => ?_) fun _ _ e => e
    cases ok with
    | true =>
      simp only [if_true] at hq ⊢
      exact wpAny_mono hq (fun y s₃ hq => cend_up (fun y nx hj => hS _ _ _ hj) (fun y nx hj => compT_inv J n hS turn fin k (i + 1) _ _ (by omega) hj) hq) fun _ _ e => e
    | false =>
      simp only [Bool.false_eq_true, if_false] at hq ⊢
      exact cend_up (fun y nx hj => hS _ _ _ hj) (fun y nx hj => compT_inv J n hS turn fin k (i + 1) _ _ (by omega) hj) hq
end
end Mine
end
section
open PySem PySem.W PyProof.Rows PySem.Calls
set_option maxRecDepth 100000
set_option maxHeartbeats 0
set_option rowWalk.seconds 0
namespace Mine
section
variable {prog : Program} {w : World} {K : Frag} {p : Program} {loose : List Str} {mean : ExcName → Option Value} {mg mb : Str → Option Value}
local macro_rules | `(tactic| k_is) => `(tactic| with_reducible assumption)
local macro_rules | `(tactic| k_mem) => `(tactic| assumption)
local macro_rules | `(tactic| walk_at "newTuple") => `(tactic| (
  k_here
  k_dflt (refine' newTuple_fr ?k1 ?k2 ?_ ?z; (case k1 => k_asm); (case k2 => k_asm); (case z => size_fits))
  intro x' h' F' N' l1
  (try k_lt l1)
  (try k_sweep)))
local macro_rules | `(tactic| walk_at "M toComp") => `(tactic| (repeat' ((fail_if_success (with_reducible show LCg.CompSrc _ _ _ _ _ _ _ _ _ _ _ _ _ _)); first | (k_unfold; (try dsimp only)) | (k_end; wrow_close) | walk1 | (dsimp only; walk1) | (leave1; walk_say "STEP leave1"; try dsimp only))))
local macro_rules | `(tactic| walk_at "exec Assign cons ListComp") => `(tactic| (k_here; k_dflt (refine LCg.Assign_ListComp_U (F₀ := by k_asm) (by rfl) (by with_unfolding_all rfl) (by with_unfolding_all rfl) (by decide) (by rfl) (by decide) (by rfl) (by rfl) (by rfl) ?_)))
/-- the pair that a number tells -/
def prOf (n : Int) : Int × Int := (n.fmod 12, (n.fdiv 12).fmod 12)
def JPairs (ns : List Int) (D1 : Addr) (ws : List Value) (L : Nat) (o1 o2 o3 o4 : Obj) (i : Nat) (ys : List Value) (nx : List (Addr × Obj)) : Prop :=
  ∃ tps, nx = (D1, listOf ws.toArray 0) :: (L + 1 + 1 + 1 + 1, o4) :: (L + 1 + 1 + 1, o3) :: (L + 1 + 1, o2) :: (L + 1, o1) :: (30, tabObj #[]) :: tps ∧ PairsAt tps ys (((ns.take 16).take i).map prOf) ∧ OwnOff tps [30, L + 1, L + 1 + 1, L + 1 + 1 + 1, L + 1 + 1 + 1 + 1, D1]
theorem PairsAt.nil {news : List (Addr × Obj)} : PairsAt news [] [] := ⟨rfl, fun i v h => by simp at h, fun ab h => by cases h⟩
theorem PairAt.mono {news news' : List (Addr × Obj)} {v : Value} {ab : Int × Int} (h : PairAt news v ab) (hs : ∀ p ∈ news, p ∈ news') : PairAt news' v ab := let ⟨x, t1, t2, e, hm⟩ := h; ⟨x, t1, t2, e, hs _ hm⟩
theorem PairsAt.mono {news news' : List (Addr × Obj)} {vs : List Value} {ps : List (Int × Int)} (h : PairsAt news vs ps) (hs : ∀ p ∈ news, p ∈ news') : PairsAt news' vs ps :=
  ⟨h.len, fun i v hv => let ⟨ab, h1, h2⟩ := h.at' i v hv; ⟨ab, h1, h2.mono hs⟩, h.bnd⟩
theorem PairsAt.snoc {news : List (Addr × Obj)} {vs : List Value} {ps : List (Int × Int)} {v : Value} {ab : Int × Int} (h : PairsAt news vs ps) (hv : PairAt news v ab) (hb : (0 ≤ ab.1 ∧ ab.1 < 12) ∧ (0 ≤ ab.2 ∧ ab.2 < 12)) : PairsAt news (vs ++ [v]) (ps ++ [ab]) := by
  refine ⟨by rw [List.length_append, List.length_append, h.len]; rfl, fun i u hu => ?_, fun x hx => ?_⟩
  · by_cases hi : i < vs.length
    · rw [List.getElem?_append_left hi] at hu
      obtain ⟨ab', h1, h2⟩ := h.at' i u hu
      exact ⟨ab', by rw [List.getElem?_append_left (by rw [← h.len]; exact hi)]; exact h1, h2⟩
    · have hi' : vs.length ≤ i := by omega
      rw [List.getElem?_append_right hi'] at hu
      obtain ⟨h1, h2⟩ := List.getElem?_eq_some_iff.mp hu
      have h3 : i - vs.length = 0 := by simpa using h1
      have h4 : u = v := by rw [← h2]; simp [h3]
      subst h4
      exact ⟨ab, by rw [List.getElem?_append_right (by rw [← h.len]; exact hi'), ← h.len, h3]; rfl, hv⟩
  · rcases List.mem_append.mp hx with hx | hx
    · exact h.bnd x hx
    · rw [List.mem_singleton.mp hx]; exact hb
abbrev lawCl (L : Addr) : List (Str × Addr) := cellsFrom (L + 1) (fScope sLaw).names []
abbrev lawEnv (L a : Addr) (ccd : Value) : Env := envX (Str.ofString "law") (fScope sLaw) L a ccd (lawCl L)
theorem jpairs_end {h₀ h' : Heap} {L I C D x9 D1 : Nat} {m : Str → Option Value} {s₁ : Shared} {oI oC oD o1 o2 o3 o4 : Obj} {ns : List Int} {ws ys : List Value} {i tk : Nat} {t5 t6 : Tok} {k : Int} {tps : List (Addr × Obj)}
    (F6 : Fr h₀ L h' m) (N6 : News h₀ L h' ((x9, tupO [.int (k.fmod 12) t5, .int ((k.fdiv 12).fmod 12) t6]) :: (I, oI) :: (C, oC) :: (D, oD) :: (D1, listOf ws.toArray 0) :: (L + 1 + 1 + 1 + 1, o4) :: (L + 1 + 1 + 1, o3) :: (L + 1 + 1, o2) :: (L + 1, o1) :: (30, tabObj #[]) :: tps))
    (l6 : I < x9 ∧ C < x9 ∧ D < x9 ∧ D1 < x9 ∧ L + 1 + 1 + 1 + 1 < x9 ∧ L + 1 + 1 + 1 < x9 ∧ L + 1 + 1 < x9 ∧ L + 1 < x9 ∧ 30 < x9 ∧ AllLt x9 tps) (hk : (ns.take 16)[i]? = some k)
    (hp : PairsAt tps ys (((ns.take 16).take i).map prOf)) (hoff : OwnOff tps [30, L + 1, L + 1 + 1, L + 1 + 1 + 1, L + 1 + 1 + 1 + 1, D1])
    (offI : ∀ q ∈ (D1, listOf ws.toArray 0) :: (L + 1 + 1 + 1 + 1, o4) :: (L + 1 + 1 + 1, o3) :: (L + 1 + 1, o2) :: (L + 1, o1) :: (30, tabObj #[]) :: tps, q.1 ≠ I ∧ q.1 ≠ C ∧ q.1 ≠ D) :
    CEnd h₀ L m s₁ I oI C oC D oD (fun y nx' => JPairs ns D1 ws L o1 o2 o3 o4 (i + 1) (ys ++ [y]) nx') (.ref x9) { s₁ with heap := h', toks := tk } := by
  obtain ⟨a1, a2, a3, a4, a5, a6, a7, a8, a9, a10⟩ := l6
  refine cend_of F6 (newsSub N6 ?_) ?_ ⟨(x9, tupO [.int (k.fmod 12) t5, .int ((k.fdiv 12).fmod 12) t6]) :: tps, rfl, ?_, ?_⟩
  · kcf_all
  · intro q hq
    simp only [List.mem_cons] at hq
    have offM : ∀ q, q = (D1, listOf ws.toArray 0) ∨ q = (L + 1 + 1 + 1 + 1, o4) ∨ q = (L + 1 + 1 + 1, o3) ∨ q = (L + 1 + 1, o2) ∨ q = (L + 1, o1) ∨ q = (30, tabObj #[]) ∨ q ∈ tps → q.1 ≠ I ∧ q.1 ≠ C ∧ q.1 ≠ D := fun q hq => offI q (by simpa only [List.mem_cons] using hq)
    rcases hq with hq | hq | hq | hq | hq | hq | rfl | hq
    · exact offM _ (.inl hq)
    · exact offM _ (.inr (.inl hq))
    · exact offM _ (.inr (.inr (.inl hq)))
    · exact offM _ (.inr (.inr (.inr (.inl hq))))
    · exact offM _ (.inr (.inr (.inr (.inr (.inl hq)))))
    · exact offM _ (.inr (.inr (.inr (.inr (.inr (.inl hq))))))
    · exact ⟨@Ne.symm Nat _ _ (Nat.ne_of_lt a1), @Ne.symm Nat _ _ (Nat.ne_of_lt a2), @Ne.symm Nat _ _ (Nat.ne_of_lt a3)⟩
    · exact offM _ (.inr (.inr (.inr (.inr (.inr (.inr hq))))))
  · have e : ((ns.take 16).take (i + 1)).map prOf = ((ns.take 16).take i).map prOf ++ [prOf k] := by
      rw [List.take_add_one, hk]; simp
    rw [e]
    refine (hp.mono fun q hq => .tail _ hq).snoc ⟨_, _, _, rfl, .head _⟩ ?_
    exact ⟨⟨Int.fmod_nonneg_of_pos _ (by omega), Int.fmod_lt_of_pos _ (by omega)⟩, Int.fmod_nonneg_of_pos _ (by omega), Int.fmod_lt_of_pos _ (by omega)⟩
  · intro q hq b hb
    rcases List.mem_cons.mp hq with rfl | hq
    · simp only [List.mem_cons, List.not_mem_nil, or_false] at hb
      refine neN ?_
      dsimp only
      rcases hb with rfl | rfl | rfl | rfl | rfl | rfl <;> omega
    · exact hoff q hq b hb
end
end Mine
end
section
open PySem PySem.W PyProof.Rows PySem.Calls
set_option maxRecDepth 100000
set_option maxHeartbeats 0
set_option rowWalk.seconds 0
namespace Mine
section
variable {prog : Program} {w : World} {K : Frag} {p : Program} {loose : List Str} {mean : ExcName → Option Value} {mg mb : Str → Option Value}
local macro_rules | `(tactic| k_is) => `(tactic| with_reducible assumption)
local macro_rules | `(tactic| k_mem) => `(tactic| assumption)
local macro_rules | `(tactic| walk_at "newTuple") => `(tactic| (
  k_here
  k_dflt (refine' newTuple_fr ?k1 ?k2 ?_ ?z; (case k1 => k_asm); (case k2 => k_asm); (case z => size_fits))
  intro x' h' F' N' l1
  (try k_lt l1)
  (try k_sweep)))
local macro_rules | `(tactic| walk_at "call ref") => `(tactic| (
  k_here
  (with_reducible show wpAny _ _ (call (Value.ref 42) [Value.ref _, Value.int _ _]) _ _ _)
  k_dflt (refine' CallOk.use (head_ok (by assumption) ?m ?i ?w ?h0 ?h1) ?k1 ?k2 ?k3 ?k4 ?k5 ?kK ?kd ?ku ?_; (case k1 => k_asm); (case k2 => k_asm); (case k3 => k_asm); (case k4 => k_asm); (case k5 => k_asm); (case m => k_mem); (case i => assumption); (case w => assumption); (case h0 => first | assumption | omega); (case h1 => first | assumption | omega); (case kK => first | exact rfl | assumption); (case kd => ktr_room); (case ku => ktr_units))
  rintro r9 n9 h9 tk9 F9 N9 ⟨x9, t9, u9, e1, l9, ⟨⟨lo9, hi9⟩, ⟨lo8, hi8⟩⟩, e2⟩
  subst e1
  subst e2
  (try k_lt l9)
  (try k_sweep)
  (try dsimp only)
  (try k_fold)))
theorem len_vs {A : Around} {E : Value → Shared → Prop} {s : Shared} {h₀ : Heap} {L : Addr} {news : List (Addr × Obj)} {l : Addr} {vs : List Value} {k n : Nat} {Q : Value → Shared → Prop} (N : News h₀ L s.heap news) (hm : (l, listOf vs.toArray k) ∈ news) (hs : vs.length = n) (hn : n ≤ 1000)
    (h : ∀ t tk, Q (.int (n : Int) t) { s with toks := tk }) : wpAny (model prog w) A (call (.builtin "len") [.ref l]) Q E s := by
  have e : vs.toArray.size = n := by rw [List.size_toArray]; exact hs
  refine len_list (IsL.isList (n := k) (N _ hm).1) (by omega) ?_
  rw [e]
  exact h _ _
local macro_rules | `(tactic| walk_at "call builtin:len") => `(tactic| (
  k_here
  (with_reducible show wpAny _ _ (call (Value.builtin "len") [Value.ref _]) _ _ _)
  k_dflt (refine' len_vs ?N ?m ?i ?z ?_; (case N => k_asm); (case m => k_mem); (case i => assumption); (case z => omega))
  intro t' tk'))
local macro_rules | `(tactic| walk_at "M toCompT") => `(tactic| (repeat' ((fail_if_success (with_reducible show LCt.CompSrcT _ _ _ _ _ _ _ _ _ _ _ _ _ _ _)); first | (k_unfold; (try dsimp only)) | (k_end; wrow_close) | walk1 | (dsimp only; walk1) | (leave1; walk_say "STEP leave1"; try dsimp only))))
local macro_rules | `(tactic| walk_at "eval ListComp") => `(tactic| (k_here; k_dflt (refine LCt.ListComp_T (F₀ := by k_asm) (by with_unfolding_all rfl) (by decide) (by rfl) (by decide) (by rfl) ?_)))
def sLoop1 : Stmt := hdS (tlS (tlS (tlS (fBody sLaw))))
def sLoop2 : Stmt := hdS (tlS (tlS (tlS (tlS (fBody sLaw)))))
/-- the code object of the made def is no cell of the law's -/
def CellOff (L : Nat) : Option (Addr × Obj) → Prop
  | none => True
  | some (c, _) => @Ne Nat c (L + 1) ∧ @Ne Nat c (L + 1 + 1) ∧ @Ne Nat c (L + 1 + 1 + 1) ∧ @Ne Nat c (L + 1 + 1 + 1 + 1)
structure Keeps (m : Str → Option Value) (lS lp xw : Addr) (j : Int) (tj : Tok) : Prop where
  sizes : m (Str.ofString "sizes") = some (.ref lS)
  pairs : m (Str.ofString "pairs") = some (.ref lp)
  whole : m (Str.ofString "whole") = some (.ref xw)
  joined : m (Str.ofString "joined") = some (.int j tj)
theorem Keeps.norm {m : Str → Option Value} {lS lp xw : Addr} {j : Int} {tj : Tok} (k : Keeps m lS lp xw j tj) : m = fun z => if z = Str.ofString "sizes" then some (.ref lS) else if z = Str.ofString "pairs" then some (.ref lp) else if z = Str.ofString "whole" then some (.ref xw) else if z = Str.ofString "joined" then some (.int j tj) else m z := by
  funext z
  by_cases h1 : z = Str.ofString "sizes"
  · subst h1; rw [if_pos rfl, k.sizes]
  rw [if_neg h1]
  by_cases h2 : z = Str.ofString "pairs"
  · subst h2; rw [if_pos rfl, k.pairs]
  rw [if_neg h2]
  by_cases h3 : z = Str.ofString "whole"
  · subst h3; rw [if_pos rfl, k.whole]
  rw [if_neg h3]
  by_cases h4 : z = Str.ofString "joined"
  · subst h4; rw [if_pos rfl, k.joined]
  rw [if_neg h4]
def J1 (L : Nat) (R : List (Addr × Obj)) (o1 o2 : Obj) (lS lp xw : Addr) (j : Int) (tj : Tok) (tn : Nat) (m : Str → Option Value) (nx : List (Addr × Obj)) : Prop :=
  ∃ τ o3 o4 c3 c4, nx = (L + 1 + 1 + 1 + 1, o4) :: (L + 1 + 1 + 1, o3) :: (L + 1 + 1, o2) :: (L + 1, o1) :: (tabLed τ ++ R) ∧ o3.data = .cell c3 ∧ o4.data = .cell c4 ∧ TabOk τ R ∧ CellOff L τ ∧ Keeps m lS lp xw j tj
/-- what the plain law says of the places -/
structure Good1 (ab sz lots : List Int) : Prop where
  wf : Wf ab
  szl : sz.length = 12
  szb : ∀ x ∈ sz, 0 ≤ x ∧ x ≤ 12
  lol : lots.length = 12
  pow : ∀ q : Int, 0 ≤ q → q < 12 → (2 : Int) ^ (headP ab q).2.toNat ≤ sz.getD (headP ab q).1.toNat 0
  bits : ∀ q : Int, 0 ≤ q → q < 12 → (headP ab q).2 + 1 ≤ (Builtin.Int.intBits (sz.getD (headP ab q).1.toNat 0) : Int)
  same : ∀ q r : Int, 0 ≤ q → q < 12 → 0 ≤ r → r < 12 → ((headP ab r).1 = (headP ab q).1 ↔ lots.getD r.toNat 0 = lots.getD q.toNat 0)
theorem off_tab {L : Nat} {τ : Option (Addr × Obj)} {R : List (Addr × Obj)} (h30 : @LT.lt Nat _ 30 L) (hc : CellOff L τ) (hR : OwnOff R [30, L + 1, L + 1 + 1, L + 1 + 1 + 1, L + 1 + 1 + 1 + 1]) : OwnOff (tabLed τ ++ R) [L + 1, L + 1 + 1, L + 1 + 1 + 1, L + 1 + 1 + 1 + 1] := by
  intro q hq b hb
  rcases List.mem_append.mp hq with hq | hq
  · simp only [List.mem_cons, List.not_mem_nil, or_false] at hb
    match τ, hc, hq with
    | none, _, hq =>
      rw [List.mem_singleton.mp hq]
      refine neN ?_
      dsimp only
      rcases hb with rfl | rfl | rfl | rfl <;> omega
    | some (c, o), hc, hq =>
      rcases List.mem_cons.mp hq with rfl | hq
      · refine neN ?_
        dsimp only
        rcases hb with rfl | rfl | rfl | rfl <;> omega
      · rw [List.mem_singleton.mp hq]
        rcases hb with rfl | rfl | rfl | rfl
        · exact hc.1
        · exact hc.2.1
        · exact hc.2.2.1
        · exact hc.2.2.2
  · exact hR q hq b (.tail _ hb)
theorem envX_locals {name : Str} {scope : Scope} {L a : Addr} {cd : Value} {cl : List (Str × Addr)} : (envX name scope L a cd cl).locals = L := rfl
theorem off_add {I : Addr} {news : List (Addr × Obj)} {adr : List Addr} (h1 : OwnOff news adr) (h2 : ∀ q ∈ news, q.1 ≠ I) : OwnOff news (adr ++ [I]) := by
  intro p hp b hb
  rcases List.mem_append.mp hb with hb | hb
  · exact h1 p hp b hb
  · rw [List.mem_singleton.mp hb]; exact h2 p hp
theorem bits13 : ∀ n : Fin 13, n.val ≠ 0 → 1 ≤ Builtin.Int.intBits (n.val : Int) ∧ Builtin.Int.intBits (n.val : Int) ≤ 4 := by decide +kernel
theorem bits_small {v : Int} (h1 : 1 ≤ v) (h2 : v ≤ 12) : 1 ≤ Builtin.Int.intBits v ∧ Builtin.Int.intBits v ≤ 4 := by
  have z := bits13 ⟨v.toNat, by omega⟩ (by show v.toNat ≠ 0; omega)
  rwa [show ((v.toNat : Nat) : Int) = v by omega] at z
theorem newsTab5 {h₀ h : Heap} {L : Addr} {a b c d e f : Addr × Obj} {tl R : List (Addr × Obj)} (N : News h₀ L h (a :: b :: c :: d :: e :: f :: (tl ++ R))) : News h₀ L h (tl ++ (b :: c :: d :: e :: f :: R)) := fun p hp => by
  refine N p ?_
  rcases List.mem_append.mp hp with hp | hp
  · exact .tail _ (.tail _ (.tail _ (.tail _ (.tail _ (.tail _ (List.mem_append.mpr (.inl hp)))))))
  · simp only [List.mem_cons] at hp ⊢
    rcases hp with hp | hp | hp | hp | hp | hp
    · exact .inr (.inl hp)
    · exact .inr (.inr (.inl hp))
    · exact .inr (.inr (.inr (.inl hp)))
    · exact .inr (.inr (.inr (.inr (.inl hp))))
    · exact .inr (.inr (.inr (.inr (.inr (.inl hp)))))
    · exact .inr (.inr (.inr (.inr (.inr (.inr (List.mem_append.mpr (.inr hp)))))))
theorem newsTab6 {h₀ h : Heap} {L : Addr} {a b c d e f : Addr × Obj} {tl R : List (Addr × Obj)} (N : News h₀ L h (a :: (tl ++ (b :: c :: d :: e :: f :: R)))) : News h₀ L h (a :: b :: c :: d :: e :: f :: (tl ++ R)) := fun p hp => by
  refine N p ?_
  simp only [List.mem_cons, List.mem_append] at hp ⊢
  rcases hp with hp | hp | hp | hp | hp | hp | hp | hp
  · exact .inl hp
  · exact .inr (.inr (.inl hp))
  · exact .inr (.inr (.inr (.inl hp)))
  · exact .inr (.inr (.inr (.inr (.inl hp))))
  · exact .inr (.inr (.inr (.inr (.inr (.inl hp)))))
  · exact .inr (.inr (.inr (.inr (.inr (.inr (.inl hp))))))
  · exact .inr (.inl hp)
  · exact .inr (.inr (.inr (.inr (.inr (.inr (.inr hp))))))
theorem mkTab {L I : Nat} {it o1 o2 o3 o4 : Obj} {τ : Option (Addr × Obj)} {R : List (Addr × Obj)} (hT : TabOk τ R) (hco : CellOff L τ) (h30 : @LT.lt Nat _ 30 L) (nh1 : @Ne Nat (L + 1) I) (nh2 : @Ne Nat (L + 1 + 1) I) (nh3 : @Ne Nat (L + 1 + 1 + 1) I) (nh4 : @Ne Nat (L + 1 + 1 + 1 + 1) I)
    (offT : ∀ q ∈ tabLed τ ++ R, q.1 ≠ I) : TabOk τ ((I, it) :: (L + 1 + 1 + 1 + 1, o4) :: (L + 1 + 1 + 1, o3) :: (L + 1 + 1, o2) :: (L + 1, o1) :: R) := by
  match τ, hT, hco, offT with
  | none, hT, _, offT =>
    intro q hq b hb
    have e : b = 30 := List.mem_singleton.mp hb
    subst e
    have hI : @Ne Nat 30 I := offT (30, tabObj #[]) (.head _)
    simp only [List.mem_cons] at hq
    rcases hq with rfl | rfl | rfl | rfl | rfl | hq
    · exact Ne.symm hI
    · exact neN (by dsimp only; omega)
    · exact neN (by dsimp only; omega)
    · exact neN (by dsimp only; omega)
    · exact neN (by dsimp only; omega)
    · exact hT q hq _ (.head _)
  | some (c, o), ⟨h1, h2, h3⟩, ⟨c1, c2, c3, c4⟩, offT =>
    refine ⟨h1, h2, ?_⟩
    intro q hq b hb
    have hI : @Ne Nat 30 I := offT (30, _) (.head _)
    have hcI : @Ne Nat c I := offT (c, o) (.tail _ (.head _))
    simp only [List.mem_cons] at hq
    rcases List.mem_cons.mp hb with rfl | hb'
    · rcases hq with rfl | rfl | rfl | rfl | rfl | hq
      · exact Ne.symm hI
      · exact neN (by dsimp only; omega)
      · exact neN (by dsimp only; omega)
      · exact neN (by dsimp only; omega)
      · exact neN (by dsimp only; omega)
      · exact h3 q hq _ (.head _)
    · have e : b = c := List.mem_singleton.mp hb'
      subst e
      rcases hq with rfl | rfl | rfl | rfl | rfl | hq
      · exact Ne.symm hcI
      · exact Ne.symm c4
      · exact Ne.symm c3
      · exact Ne.symm c2
      · exact Ne.symm c1
      · exact h3 q hq _ (.tail _ (.head _))
theorem digits_back {L I : Nat} {it o1 o2 o3 o4 o : Obj} {c : Nat} {R : List (Addr × Obj)} (h : TabOk (some (c, o)) ((I, it) :: (L + 1 + 1 + 1 + 1, o4) :: (L + 1 + 1 + 1, o3) :: (L + 1 + 1, o2) :: (L + 1, o1) :: R)) :
    TabOk (some (c, o)) R ∧ CellOff L (some (c, o)) ∧ @Ne Nat c I ∧ @Ne Nat 30 I := by
  obtain ⟨h1, h2, h3⟩ := h
  refine ⟨⟨h1, h2, fun q hq => h3 q (.tail _ (.tail _ (.tail _ (.tail _ (.tail _ hq)))))⟩, ⟨?_, ?_, ?_, ?_⟩, ?_, ?_⟩
  · exact Ne.symm (h3 _ (.tail _ (.tail _ (.tail _ (.tail _ (.head _))))) _ (.tail _ (.head _)))
  · exact Ne.symm (h3 _ (.tail _ (.tail _ (.tail _ (.head _)))) _ (.tail _ (.head _)))
  · exact Ne.symm (h3 _ (.tail _ (.tail _ (.head _))) _ (.tail _ (.head _)))
  · exact Ne.symm (h3 _ (.tail _ (.head _)) _ (.tail _ (.head _)))
  · exact Ne.symm (h3 _ (.head _) _ (.tail _ (.head _)))
  · exact Ne.symm (h3 _ (.head _) _ (.head _))
theorem offTab2 {I c : Nat} {o : Obj} {τ : Option (Addr × Obj)} {R : List (Addr × Obj)} (h1 : @Ne Nat c I) (h2 : @Ne Nat 30 I) (h3 : ∀ q ∈ tabLed τ ++ R, q.1 ≠ I) : ∀ q ∈ tabLed (some (c, o)) ++ R, q.1 ≠ I := by
  intro q hq
  rcases List.mem_append.mp hq with hq | hq
  · rcases List.mem_cons.mp hq with rfl | hq
    · exact h2
    · rw [List.mem_singleton.mp hq]; exact h1
  · exact h3 q (List.mem_append.mpr (.inr hq))
theorem j1_end {Q : Flow → Shared → Prop} {h₀ h' : Heap} {L I : Nat} {it o1 o2 o3 o4 : Obj} {x1 x2 x3 : Addr × Obj} {s₁ : Shared} {m' : Str → Option Value} {R : List (Addr × Obj)} {i tk : Nat} {τ : Option (Addr × Obj)} {c3 c4 : Option Value} {lS lp xw : Addr} {j : Int} {tj : Tok}
    (F : Fr h₀ L h' m') (N : News h₀ L h' (x1 :: x2 :: x3 :: (I, it) :: (L + 1 + 1 + 1 + 1, o4) :: (L + 1 + 1 + 1, o3) :: (L + 1 + 1, o2) :: (L + 1, o1) :: (tabLed τ ++ R)))
    (h3 : o3.data = .cell c3) (h4 : o4.data = .cell c4) (hT : TabOk τ R) (hco : CellOff L τ) (hk : Keeps m' lS lp xw j tj) (h1 : @Ne Nat (L + 1) I) (h2 : @Ne Nat (L + 1 + 1) I) (h3' : @Ne Nat (L + 1 + 1 + 1) I) (h4' : @Ne Nat (L + 1 + 1 + 1 + 1) I)
    (off : ∀ q ∈ tabLed τ ++ R, q.1 ≠ I) : FPost h₀ L s₁ I it (J1 L R o1 o2 lS lp xw j tj (i + 1)) Q .next { s₁ with heap := h', toks := tk } := by
  refine ⟨h', tk, m', _, rfl, F, newsTail (newsTail (newsTail N)), ?_, τ, o3, o4, c3, c4, rfl, h3, h4, hT, hco, hk⟩
  exact List.forall_mem_cons.mpr ⟨h4', List.forall_mem_cons.mpr ⟨h3', List.forall_mem_cons.mpr ⟨h2, List.forall_mem_cons.mpr ⟨h1, off⟩⟩⟩⟩
theorem loop1_ok (hK : KF K) {dp un : Nat} {gd : Option (List Code)} {a : Addr} {ccd : Value} {outer : List Env} {A₀ : Around} {base h₀ : Heap} {L : Addr} {m : Str → Option Value} {s : Shared} {Q : Flow → Shared → Prop} {E : Value → Shared → Prop}
    {lA lS lL lp xw na nz nl : Nat} {va vz vl : List Value} {ab sz lots : List Int} {j : Int} {tj : Tok} {R : List (Addr × Obj)} {o1 o2 : Obj}
    (B : Below A₀ base outer h₀) (F : Fr h₀ L s.heap m) (X : K.In h₀) (T : Top p loose mean mg mb h₀) (hCode : CodeHd base 34 30) {nx : List (Addr × Obj)} (N : News h₀ L s.heap nx) (hJ : J1 L R o1 o2 lS lp xw j tj 0 m nx)
    (hc1 : o1.data = .cell (some (.ref lA))) (hc2 : o2.data = .cell (some (.ref lL))) (h30 : @LT.lt Nat _ 30 L)
    (hA : (lA, listOf va.toArray na) ∈ R) (hS : (lS, listOf vz.toArray nz) ∈ R) (hL : (lL, listOf vl.toArray nl) ∈ R) (iA : IntsAre va ab) (iZ : IntsAre vz sz) (iL : IntsAre vl lots) (G : Good1 ab sz lots)
    (hoff : OwnOff R [30, L + 1, L + 1 + 1, L + 1 + 1 + 1, L + 1 + 1 + 1 + 1]) (hd : dp + 10 < recursionLimit) (hu : un + 80 < cLine)
    (hE : PassesOwn (model prog w) (ktrTop dp un gd (Str.ofString "law") (fScope sLaw) L a ccd (lawCl L) outer) (lawEnv L a ccd) E)
    (done : ∀ m₁ nx h tk, J1 L R o1 o2 lS lp xw j tj 12 m₁ nx → Fr h₀ L h m₁ → News h₀ L h nx → Q .next { s with heap := h, toks := tk }) :
    wpAny (model prog w) (ktrTop dp un gd (Str.ofString "law") (fScope sLaw) L a ccd (lawCl L) outer) (exec sLoop1 (lawEnv L a ccd)) Q E s := by
  have hnH := hK.nHead
  have hkH := hK.oHead.keep
  have hnD := hK.nDigits
  have hkD := hK.oDigits.keep
  have hnR := hK.nRange
  have hnL := hK.nLen
  dsimp only [lawEnv, lawCl, sLoop1, sLaw, bd, PySem.Challenge.pw_gm0001_01, tlS, hdS, fArgs, fBody, fScope]
  with_unfolding_all refine' For_turns F ?_
  k_steps
  (rename Fr _ _ _ _ => F2); (rename News _ _ _ _ => N2)
  refine for_range (n := 12) (J1 L R o1 o2 lS lp xw j tj) (by with_unfolding_all rfl) F2 N2 (by assumption) (by decide) (by decide) hJ ?tn done
  clear F2 N2 hJ
  dsimp only [envX_locals]
  rintro I it i t m₁ nx h tk hin ⟨τ, o3, o4, c3, c4, rfl, hd3, hd4, hT, hco, hk⟩ offI F₁ N₁
  have hq0 : 0 ≤ (0 : Int) + (i : Int) := by omega
  have hq1 : (0 : Int) + (i : Int) < 12 := by omega
  generalize (0 : Int) + (i : Int) = q at *
  replace F₁ := fr_norm F₁ hk.norm
  have hI4 : @Ne Nat (L + 1 + 1 + 1 + 1) I := offI _ (.head _)
  have hI3 : @Ne Nat (L + 1 + 1 + 1) I := offI _ (.tail _ (.head _))
  have hI2 : @Ne Nat (L + 1 + 1) I := offI _ (.tail _ (.tail _ (.head _)))
  have hI1 : @Ne Nat (L + 1) I := offI _ (.tail _ (.tail _ (.tail _ (.head _))))
  have offT : ∀ q ∈ tabLed τ ++ R, q.1 ≠ I := fun q hq => offI q (.tail _ (.tail _ (.tail _ (.tail _ hq))))
  have hoffT : OwnOff (tabLed τ ++ R) [L + 1, L + 1 + 1, L + 1 + 1 + 1, L + 1 + 1 + 1 + 1, I] := off_add (off_tab h30 hco hoff) offT
  have hA' : (lA, listOf va.toArray na) ∈ tabLed τ ++ R := List.mem_append.mpr (.inr hA)
  have hS' : (lS, listOf vz.toArray nz) ∈ tabLed τ ++ R := List.mem_append.mpr (.inr hS)
  have hL' : (lL, listOf vl.toArray nl) ∈ tabLed τ ++ R := List.mem_append.mpr (.inr hL)
  have hw := G.wf
  have hwl := G.wf.len
  have hzl := G.szl
  have hpow := G.pow q hq0 hq1
  have hbits := G.bits q hq0 hq1
  try k_fold
  k_steps
  (rename News _ _ _ _ => N5); (rename Fr _ _ _ _ => F5)
  have hv1 : 1 ≤ sz.getD (headP ab q).1.toNat 0 := by
    have hpp : (0 : Int) < 2 ^ (headP ab q).2.toNat := Int.pow_pos (by omega)
    exact Int.le_trans hpp hpow
  have hv2 : sz.getD (headP ab q).1.toNat 0 ≤ 12 := (G.szb _ (getD_mem' (by rw [hzl]; omega))).2
  have hbd := bits_small hv1 hv2
  replace N5 := newsTab5 N5
  k_dflt (refine' CallOkC.use (digits_ok hK hv1 hv2 rfl hbd.1 hbd.2 (mkTab hT hco h30 hI1 hI2 hI3 hI4 offT)) ?k1 ?k2 ?k3 N5 ?k5 ?k6 ?kK ?kd ?ku ?_)
  case k1 => k_asm
  case k2 => k_asm
  case k3 => k_asm
  case k5 => k_asm
  case k6 => assumption
  case kK => first | exact rfl | assumption
  case kd => ktr_room
  case ku => ktr_units
  clear N5 F5
  rintro r9 n9 h9 tk9 F9 N9 ⟨D, vd, nd, c, o, rfl, hvd, hT', hDoff, rfl⟩
  obtain ⟨hTn, hcon, hcI, h30I⟩ := digits_back hT'
  replace N9 := newsTab6 N9
  have hD0 : @Ne Nat I D := hDoff _ (List.mem_append.mpr (.inr (.head _)))
  have hD4 : @Ne Nat (L + 1 + 1 + 1 + 1) D := hDoff _ (List.mem_append.mpr (.inr (.tail _ (.head _))))
  have hD3 : @Ne Nat (L + 1 + 1 + 1) D := hDoff _ (List.mem_append.mpr (.inr (.tail _ (.tail _ (.head _)))))
  have hD2 : @Ne Nat (L + 1 + 1) D := hDoff _ (List.mem_append.mpr (.inr (.tail _ (.tail _ (.tail _ (.head _))))))
  have hD1 : @Ne Nat (L + 1) D := hDoff _ (List.mem_append.mpr (.inr (.tail _ (.tail _ (.tail _ (.tail _ (.head _)))))))
  have offT2 : ∀ q ∈ tabLed (some (c, o)) ++ R, q.1 ≠ I := offTab2 hcI h30I offT
  have offD2 : ∀ q ∈ tabLed (some (c, o)) ++ R, q.1 ≠ D := fun q hq => hDoff q (by
    rcases List.mem_append.mp hq with hq | hq
    · exact List.mem_append.mpr (.inl hq)
    · exact List.mem_append.mpr (.inr (.tail _ (.tail _ (.tail _ (.tail _ (.tail _ hq)))))))
  clear hoffT hA' hS' hL' offT hDoff hT' hT hco
  have hoffT : OwnOff (tabLed (some (c, o)) ++ R) [L + 1, L + 1 + 1, L + 1 + 1 + 1, L + 1 + 1 + 1 + 1, I, D] := off_add (adr := [L + 1, L + 1 + 1, L + 1 + 1 + 1, L + 1 + 1 + 1 + 1, I]) (off_add (off_tab h30 hcon hoff) offT2) offD2
  generalize some (c, o) = τ' at *
  have hA' : (lA, listOf va.toArray na) ∈ tabLed τ' ++ R := List.mem_append.mpr (.inr hA)
  have hS' : (lS, listOf vz.toArray nz) ∈ tabLed τ' ++ R := List.mem_append.mpr (.inr hS)
  have hL' : (lL, listOf vl.toArray nl) ∈ tabLed τ' ++ R := List.mem_append.mpr (.inr hL)
  (try k_sweep)
  (try dsimp only)
  (try k_fold)
  walk_at "M toCompT"
  (rename IsRange _ _ _ _ _ _ _ _ => hR7); (rename Fr _ _ _ _ => F7); (rename News _ _ _ _ => N7)
  refine LCt.CompSrcT.range (n := 12) (by rfl) F7 N7 hR7 (by decide) (by decide) (by rw [PySem.sizeLine_eq]; omega) ?_
  intro g7
  refine compT_inv (fun _ ys nx => ys = [] ∧ nx = _) 12 (fun _ _ _ _ => trivial) ?t7 ?f7 12 0 [] _ rfl ⟨rfl, rfl⟩
  case t7 =>
    clear F7 N7 hR7
    rintro i2 v2 ys nx2 I2 oI2 C2 oC2 D2 m₂ h tk E' hin ⟨t2, rfl⟩ ⟨rfl, rfl⟩ hNs hx F₁ N₁ offI2 ⟨ne1, ne2, ne3⟩
    have hr0 : 0 ≤ (0 : Int) + (i2 : Int) := by omega
    have hr1 : (0 : Int) + (i2 : Int) < 12 := by omega
    generalize (0 : Int) + (i2 : Int) = r at *
    have hsame := G.same q r hq0 hq1 hr0 hr1
    have hlol := G.lol
    try k_fold
    k_steps
    · exfalso
      (rename (_ != _) = true => hb)
      have e : ((headP ab r).1 == (headP ab q).1) = (lots.getD r.toNat 0 == lots.getD q.toNat 0) := by
        rw [Bool.eq_iff_iff, beq_iff_eq, beq_iff_eq]; exact hsame
      rw [e] at hb
      simp at hb
    · (rename Fr _ _ _ _ => F8); (rename News _ _ _ _ => N8)
      exact cend_of F8 (newsTail N8) offI2 ⟨rfl, rfl⟩
  case f7 =>
    clear F7 N7 hR7
    rintro ys nx ⟨rfl, rfl⟩ D3 h3 tk3 F3 N3 O3
    dsimp only
    try k_fold
    k_steps
    (rename Fr _ _ _ _ => F8); (rename News _ _ _ _ => N8)
    exact j1_end F8 N8 (by assumption) (by assumption) hTn hcon ⟨rfl, rfl, rfl, rfl⟩ hI1 hI2 hI3 hI4 offT2
end
end Mine
end
section
open PySem PySem.W PyProof.Rows PySem.Calls
set_option maxRecDepth 100000
set_option maxHeartbeats 0
set_option rowWalk.seconds 0
namespace Mine
def places : List Int := (List.range 12).map fun (i : Nat) => (i : Int)
def insideP (ab : List Int) (h : Int) : List Int := places.filter fun q => (headP ab q).1 == h
def stepsP (ab : List Int) (h : Int) : Int := ((insideP ab h).map fun q => (headP ab q).2).sum
def wStep (ab : List Int) (t : Int × Int × Int) (h : Int) : Int × Int × Int :=
  if ab.getD h.toNat 0 = h then (((insideP ab h).length : Int) + t.1, 1 + t.2.1, stepsP ab h + t.2.2) else t
def wSum (ab : List Int) (n : Nat) : Int × Int × Int := ((List.range n).map fun (i : Nat) => (i : Int)).foldl (wStep ab) (0, 0, 0)
theorem wSum_succ (ab : List Int) (n : Nat) : wSum ab (n + 1) = wStep ab (wSum ab n) (n : Int) := by
  unfold wSum; rw [List.range_succ, List.map_append, List.foldl_append]; rfl
structure Good2 (ab sz : List Int) : Prop where
  wf : Wf ab
  szl : sz.length = 12
  szb : ∀ x ∈ sz, 0 ≤ x ∧ x ≤ 12
  len : ∀ h : Int, 0 ≤ h → h < 12 → ab.getD h.toNat 0 = h → ((insideP ab h).length : Int) = sz.getD h.toNat 0 ∧ 1 ≤ (insideP ab h).length
  half : ∀ h : Int, 0 ≤ h → h < 12 → ab.getD h.toNat 0 = h → 2 * stepsP ab h ≤ ((insideP ab h).length : Int) * (Builtin.Int.intBits ((insideP ab h).length : Int) : Int)
section
variable {prog : Program} {w : World} {K : Frag} {p : Program} {loose : List Str} {mean : ExcName → Option Value} {mg mb : Str → Option Value}
local macro_rules | `(tactic| k_is) => `(tactic| with_reducible assumption)
local macro_rules | `(tactic| k_mem) => `(tactic| assumption)
local macro_rules | `(tactic| walk_at "newTuple") => `(tactic| (
  k_here
  k_dflt (refine' newTuple_fr ?k1 ?k2 ?_ ?z; (case k1 => k_asm); (case k2 => k_asm); (case z => size_fits))
  intro x' h' F' N' l1
  (try k_lt l1)
  (try k_sweep)))
local macro_rules | `(tactic| walk_at "call ref") => `(tactic| (
  k_here
  (with_reducible show wpAny _ _ (call (Value.ref 42) [Value.ref _, Value.int _ _]) _ _ _)
  k_dflt (refine' CallOk.use (head_ok (by assumption) ?m ?i ?w ?h0 ?h1) ?k1 ?k2 ?k3 ?k4 ?k5 ?kK ?kd ?ku ?_; (case k1 => k_asm); (case k2 => k_asm); (case k3 => k_asm); (case k4 => k_asm); (case k5 => k_asm); (case m => k_mem); (case i => assumption); (case w => assumption); (case h0 => first | assumption | omega); (case h1 => first | assumption | omega); (case kK => first | exact rfl | assumption); (case kd => ktr_room); (case ku => ktr_units))
  rintro r9 n9 h9 tk9 F9 N9 ⟨x9, t9, u9, e1, l9, ⟨⟨lo9, hi9⟩, ⟨lo8, hi8⟩⟩, e2⟩
  subst e1
  subst e2
  (try k_lt l9)
  (try k_sweep)
  (try dsimp only)
  (try k_fold)))
local macro_rules | `(tactic| walk_at "call builtin:len") => `(tactic| (
  k_here
  (with_reducible show wpAny _ _ (call (Value.builtin "len") [Value.ref _]) _ _ _)
  k_dflt (refine' len_vs ?N ?m ?i ?z ?_; (case N => k_asm); (case m => k_mem); (case i => assumption); (case z => omega))
  intro t' tk'))
local macro_rules | `(tactic| walk_at "M toCompT") => `(tactic| (repeat' ((fail_if_success (with_reducible show LCt.CompSrcT _ _ _ _ _ _ _ _ _ _ _ _ _ _ _)); first | (k_unfold; (try dsimp only)) | (k_end; wrow_close) | walk1 | (dsimp only; walk1) | (leave1; walk_say "STEP leave1"; try dsimp only))))
local macro_rules | `(tactic| walk_at "M toComp") => `(tactic| (repeat' ((fail_if_success (with_reducible show LCg.CompSrc _ _ _ _ _ _ _ _ _ _ _ _ _ _)); first | (k_unfold; (try dsimp only)) | (k_end; wrow_close) | walk1 | (dsimp only; walk1) | (leave1; walk_say "STEP leave1"; try dsimp only))))
local macro_rules | `(tactic| walk_at "exec Assign cons ListComp") => `(tactic| (k_here; k_dflt (refine LCt.Assign_ListComp_T (F₀ := by k_asm) (by rfl) (by with_unfolding_all rfl) (by with_unfolding_all rfl) (by decide) (by rfl) (by decide) (by rfl) (by rfl) (by rfl) ?_)))
local macro_rules | `(tactic| walk_at "eval ListComp") => `(tactic| (k_here; k_dflt (refine LCg.ListComp_U (F₀ := by k_asm) (by with_unfolding_all rfl) (by decide) (by rfl) (by decide) (by rfl) ?_)))
def WholeAt (prog : Program) (w : World) (R : List (Addr × Obj)) (xw : Addr) (t : Int × Int × Int) : Prop :=
  ∃ d od u1 u2 u3 w4 u4, (xw, tupO [.int t.1 u1, .int t.2.1 u2, .int t.2.2 u3, .int w4 u4, .ref d]) ∈ R ∧ (d, od) ∈ R ∧ EmptyD prog w d od
def J2 (prog : Program) (w : World) (L : Nat) (R : List (Addr × Obj)) (o1 o2 : Obj) (lS lp : Addr) (j : Int) (tj : Tok) (ab : List Int) (i : Nat) (m : Str → Option Value) (nx : List (Addr × Obj)) : Prop :=
  ∃ τ R2 xw o3 o4 c3 c4, nx = (L + 1 + 1 + 1 + 1, o4) :: (L + 1 + 1 + 1, o3) :: (L + 1 + 1, o2) :: (L + 1, o1) :: (tabLed τ ++ R2) ∧ o3.data = .cell c3 ∧ o4.data = .cell c4 ∧ TabOk τ R2 ∧ CellOff L τ ∧ Keeps m lS lp xw j tj ∧
    OwnOff R2 [30, L + 1, L + 1 + 1, L + 1 + 1 + 1, L + 1 + 1 + 1 + 1] ∧ (∀ q ∈ R, q ∈ R2) ∧ WholeAt prog w R2 xw (wSum ab i)
theorem inside_le (ab : List Int) (h : Int) : (insideP ab h).length ≤ 12 := Nat.le_trans (List.length_filter_le _ _) (by simp [places])
theorem inside_bnd {ab : List Int} {h r : Int} (hr : r ∈ insideP ab h) : 0 ≤ r ∧ r < 12 := by
  have h1 := (List.mem_filter.mp hr).1
  simp only [places, List.mem_map, List.mem_range] at h1
  obtain ⟨i, h2, rfl⟩ := h1
  omega
theorem j2_end {Q : Flow → Shared → Prop} {h₀ h' : Heap} {L I : Nat} {it o1 o2 o3 o4 : Obj} {s₁ : Shared} {m' : Str → Option Value} {R R2 : List (Addr × Obj)} {i tk : Nat} {τ : Option (Addr × Obj)} {c3 c4 : Option Value} {lS lp xw : Addr} {j : Int} {tj : Tok} {ab : List Int}
    (F : Fr h₀ L h' m') (N : News h₀ L h' ((I, it) :: (L + 1 + 1 + 1 + 1, o4) :: (L + 1 + 1 + 1, o3) :: (L + 1 + 1, o2) :: (L + 1, o1) :: (tabLed τ ++ R2)))
    (h3 : o3.data = .cell c3) (h4 : o4.data = .cell c4) (hT : TabOk τ R2) (hco : CellOff L τ) (hk : Keeps m' lS lp xw j tj) (h1 : @Ne Nat (L + 1) I) (h2 : @Ne Nat (L + 1 + 1) I) (h3' : @Ne Nat (L + 1 + 1 + 1) I) (h4' : @Ne Nat (L + 1 + 1 + 1 + 1) I)
    (off : ∀ q ∈ tabLed τ ++ R2, q.1 ≠ I) (hoff : OwnOff R2 [30, L + 1, L + 1 + 1, L + 1 + 1 + 1, L + 1 + 1 + 1 + 1]) (hsub : ∀ q ∈ R, q ∈ R2) (hw : WholeAt prog w R2 xw (wSum ab (i + 1))) : FPost h₀ L s₁ I it (J2 prog w L R o1 o2 lS lp j tj ab (i + 1)) Q .next { s₁ with heap := h', toks := tk } := by
  refine ⟨h', tk, m', _, rfl, F, N, ?_, τ, R2, xw, o3, o4, c3, c4, rfl, h3, h4, hT, hco, hk, hoff, hsub, hw⟩
  exact List.forall_mem_cons.mpr ⟨h4', List.forall_mem_cons.mpr ⟨h3', List.forall_mem_cons.mpr ⟨h2, List.forall_mem_cons.mpr ⟨h1, off⟩⟩⟩⟩
theorem newsTab5b {h₀ h : Heap} {L : Addr} {a b c d e f g : Addr × Obj} {tl R : List (Addr × Obj)} (N : News h₀ L h (a :: b :: c :: d :: e :: f :: g :: (tl ++ R))) : News h₀ L h (tl ++ (b :: c :: d :: e :: f :: g :: R)) := fun p hp => by
  refine N p ?_
  rcases List.mem_append.mp hp with hp | hp
  · exact .tail _ (.tail _ (.tail _ (.tail _ (.tail _ (.tail _ (.tail _ (List.mem_append.mpr (.inl hp))))))))
  · simp only [List.mem_cons] at hp ⊢
    rcases hp with hp | hp | hp | hp | hp | hp | hp
    · exact .inr (.inl hp)
    · exact .inr (.inr (.inl hp))
    · exact .inr (.inr (.inr (.inl hp)))
    · exact .inr (.inr (.inr (.inr (.inl hp))))
    · exact .inr (.inr (.inr (.inr (.inr (.inl hp)))))
    · exact .inr (.inr (.inr (.inr (.inr (.inr (.inl hp))))))
    · exact .inr (.inr (.inr (.inr (.inr (.inr (.inr (List.mem_append.mpr (.inr hp))))))))
theorem newsTab6b {h₀ h : Heap} {L : Addr} {a b c d e f g : Addr × Obj} {tl R : List (Addr × Obj)} (N : News h₀ L h (a :: (tl ++ (b :: c :: d :: e :: f :: g :: R)))) : News h₀ L h (a :: b :: c :: d :: e :: f :: g :: (tl ++ R)) := fun p hp => by
  refine N p ?_
  simp only [List.mem_cons, List.mem_append] at hp ⊢
  rcases hp with hp | hp | hp | hp | hp | hp | hp | hp | hp
  · exact .inl hp
  · exact .inr (.inr (.inl hp))
  · exact .inr (.inr (.inr (.inl hp)))
  · exact .inr (.inr (.inr (.inr (.inl hp))))
  · exact .inr (.inr (.inr (.inr (.inr (.inl hp)))))
  · exact .inr (.inr (.inr (.inr (.inr (.inr (.inl hp))))))
  · exact .inr (.inr (.inr (.inr (.inr (.inr (.inr (.inl hp)))))))
  · exact .inr (.inl hp)
  · exact .inr (.inr (.inr (.inr (.inr (.inr (.inr (.inr hp)))))))
theorem tabOk_cons {τ : Option (Addr × Obj)} {R : List (Addr × Obj)} {D : Nat} {y : Obj} (h : TabOk τ R) (h3 : ∀ q ∈ tabLed τ, q.1 ≠ D) : TabOk τ ((D, y) :: R) := by
  match τ, h, h3 with
  | none, h, h3 =>
    intro q hq b hb
    rcases List.mem_cons.mp hq with rfl | hq
    · rw [List.mem_singleton.mp hb]; exact Ne.symm (h3 _ (.head _))
    · exact h q hq b hb
  | some (c, o), ⟨h1, h2, h⟩, h3 =>
    refine ⟨h1, h2, ?_⟩
    intro q hq b hb
    rcases List.mem_cons.mp hq with rfl | hq
    · rcases List.mem_cons.mp hb with rfl | hb
      · exact Ne.symm (h3 _ (.head _))
      · rw [List.mem_singleton.mp hb]; exact Ne.symm (h3 _ (.tail _ (.head _)))
    · exact h q hq b hb
theorem tabOk_tail {c : Nat} {o : Obj} {R : List (Addr × Obj)} {D : Nat} {y : Obj} (h : TabOk (some (c, o)) ((D, y) :: R)) : TabOk (some (c, o)) R ∧ ∀ q ∈ tabLed (some (c, o)), q.1 ≠ D := by
  obtain ⟨h1, h2, h⟩ := h
  refine ⟨⟨h1, h2, fun q hq => h q (.tail _ hq)⟩, fun q hq => ?_⟩
  rcases List.mem_cons.mp hq with rfl | hq
  · exact Ne.symm (h _ (.head _) _ (.head _))
  · rw [List.mem_singleton.mp hq]; exact Ne.symm (h _ (.head _) _ (.tail _ (.head _)))
theorem offTab3 {D c : Nat} {o : Obj} {τ : Option (Addr × Obj)} {R : List (Addr × Obj)} (h1 : ∀ q ∈ tabLed (some (c, o)), q.1 ≠ D) (h3 : ∀ q ∈ tabLed τ ++ R, q.1 ≠ D) : ∀ q ∈ tabLed (some (c, o)) ++ R, q.1 ≠ D := by
  intro q hq
  rcases List.mem_append.mp hq with hq | hq
  · exact h1 q hq
  · exact h3 q (List.mem_append.mpr (.inr hq))
theorem bits12 {n : Nat} (h1 : 1 ≤ n) (h2 : n ≤ 12) : 1 ≤ Builtin.Int.intBits (n : Int) ∧ Builtin.Int.intBits (n : Int) ≤ 4 := bits_small (by omega) (by omega)
theorem loop2_ok (hK : KF K) {dp un : Nat} {gd : Option (List Code)} {a : Addr} {ccd : Value} {outer : List Env} {A₀ : Around} {base h₀ : Heap} {L : Addr} {m : Str → Option Value} {s : Shared} {Q : Flow → Shared → Prop} {E : Value → Shared → Prop}
    {lA lS lp na nz : Nat} {va vz : List Value} {ab sz : List Int} {j : Int} {tj : Tok} {R : List (Addr × Obj)} {o1 o2 : Obj}
    (B : Below A₀ base outer h₀) (F : Fr h₀ L s.heap m) (X : K.In h₀) (T : Top p loose mean mg mb h₀) (hCode : CodeHd base 34 30) {nx : List (Addr × Obj)} (N : News h₀ L s.heap nx) (hJ : J2 prog w L R o1 o2 lS lp j tj ab 0 m nx)
    (hc1 : o1.data = .cell (some (.ref lA))) (h30 : @LT.lt Nat _ 30 L)
    (hA : (lA, listOf va.toArray na) ∈ R) (hS : (lS, listOf vz.toArray nz) ∈ R) (iA : IntsAre va ab) (iZ : IntsAre vz sz) (G : Good2 ab sz)
    (hd : dp + 10 < recursionLimit) (hu : un + 80 < cLine)
    (hE : PassesOwn (model prog w) (ktrTop dp un gd (Str.ofString "law") (fScope sLaw) L a ccd (lawCl L) outer) (lawEnv L a ccd) E)
    (done : ∀ m₁ nx h tk, J2 prog w L R o1 o2 lS lp j tj ab 12 m₁ nx → Fr h₀ L h m₁ → News h₀ L h nx → Q .next { s with heap := h, toks := tk }) :
    wpAny (model prog w) (ktrTop dp un gd (Str.ofString "law") (fScope sLaw) L a ccd (lawCl L) outer) (exec sLoop2 (lawEnv L a ccd)) Q E s := by
  have hnH := hK.nHead
  have hkH := hK.oHead.keep
  have hnD := hK.nDigits
  have hkD := hK.oDigits.keep
  have hnS := hK.nStats
  have hkS := hK.oStats.keep
  have hnR := hK.nRange
  have hnL := hK.nLen
  have hnU := hK.nSum
  dsimp only [lawEnv, lawCl, sLoop2, sLaw, bd, PySem.Challenge.pw_gm0001_01, tlS, hdS, fArgs, fBody, fScope]
  with_unfolding_all refine' For_turns F ?_
  k_steps
  (rename Fr _ _ _ _ => F2); (rename News _ _ _ _ => N2)
  refine for_range (n := 12) (J2 prog w L R o1 o2 lS lp j tj ab) (by with_unfolding_all rfl) F2 N2 (by assumption) (by decide) (by decide) hJ ?tn done
  clear F2 N2 hJ
  dsimp only [envX_locals]
  rintro I it i t m₁ nx h tk hin ⟨τ, R2, xw, o3, o4, c3, c4, rfl, hd3, hd4, hT, hco, hk, hoff, hsub, hwh⟩ offI F₁ N₁
  have hws := wSum_succ ab i
  have hq0 : 0 ≤ (0 : Int) + (i : Int) := by omega
  have hq1 : (0 : Int) + (i : Int) < 12 := by omega
  rw [show ((i : Nat) : Int) = (0 : Int) + (i : Int) by omega] at hws
  generalize (0 : Int) + (i : Int) = q at *
  replace F₁ := fr_norm F₁ hk.norm
  have hI4 : @Ne Nat (L + 1 + 1 + 1 + 1) I := offI _ (.head _)
  have hI3 : @Ne Nat (L + 1 + 1 + 1) I := offI _ (.tail _ (.head _))
  have hI2 : @Ne Nat (L + 1 + 1) I := offI _ (.tail _ (.tail _ (.head _)))
  have hI1 : @Ne Nat (L + 1) I := offI _ (.tail _ (.tail _ (.tail _ (.head _))))
  have offT : ∀ q ∈ tabLed τ ++ R2, q.1 ≠ I := fun q hq => offI q (.tail _ (.tail _ (.tail _ (.tail _ hq))))
  have hoffT : OwnOff (tabLed τ ++ R2) [L + 1, L + 1 + 1, L + 1 + 1 + 1, L + 1 + 1 + 1 + 1, I] := off_add (off_tab h30 hco hoff) offT
  have hA' : (lA, listOf va.toArray na) ∈ tabLed τ ++ R2 := List.mem_append.mpr (.inr (hsub _ hA))
  have hS' : (lS, listOf vz.toArray nz) ∈ tabLed τ ++ R2 := List.mem_append.mpr (.inr (hsub _ hS))
  have hw := G.wf
  have hwl := G.wf.len
  have hzl := G.szl
  have hlen := G.len q hq0 hq1
  have hhalf := G.half q hq0 hq1
  try k_fold
  walk_at "M toCompT"
  rotate_left
  · -- the place is no head
    (rename Fr _ _ _ _ => F8); (rename News _ _ _ _ => N8); (rename @Ne Int _ _ => hne)
    refine j2_end F8 N8 (by assumption) (by assumption) hT hco ⟨rfl, rfl, rfl, rfl⟩ hI1 hI2 hI3 hI4 offT hoff hsub ?_
    rw [hws]; unfold wStep; rw [if_neg hne]; exact hwh
  (rename @Eq Int (List.getD _ _ _) q => hroot)
  have hlen := hlen hroot
  have hhalf := hhalf hroot
  (rename IsRange _ _ _ _ _ _ _ _ => hR7); (rename Fr _ _ _ _ => F7); (rename News _ _ _ _ => N7)
  refine LCt.CompSrcT.range (n := 12) (by rfl) F7 N7 hR7 (by decide) (by decide) (by rw [PySem.sizeLine_eq]; omega) ?_
  intro g7
  refine compT_inv (fun i ys nx => IntsAre ys ((places.take i).filter fun r => (headP ab r).1 == q) ∧ nx = _) 12 (fun _ _ _ _ => trivial) ?t7 ?f7 12 0 [] _ rfl ⟨.nil, rfl⟩
  case t7 =>
    clear F7 N7 hR7
    rintro i2 v2 ys nx2 I2 oI2 C2 oC2 D2 m₂ h tk E' hin2 ⟨t2, rfl⟩ ⟨iY, rfl⟩ hNs hx F₁ N₁ offI2 ⟨ne1, ne2, ne3⟩
    have hr0 : 0 ≤ (0 : Int) + (i2 : Int) := by omega
    have hr1 : (0 : Int) + (i2 : Int) < 12 := by omega
    have htk : places.take (i2 + 1) = places.take i2 ++ [(0 : Int) + (i2 : Int)] := by
      rw [List.take_add_one]; simp [places, hin2]
    generalize (0 : Int) + (i2 : Int) = r at *
    try k_fold
    k_steps
    · (rename Fr _ _ _ _ => F8); (rename News _ _ _ _ => N8); (rename @Eq Int (headP _ _).1 _ => he)
      refine cend_of F8 (newsTail N8) offI2 ⟨?_, rfl⟩
      rw [htk, List.filter_append, List.filter_cons, if_pos (by rw [he]; simp), List.filter_nil]
      exact iY.append (.cons r t2 .nil)
    · (rename Fr _ _ _ _ => F8); (rename News _ _ _ _ => N8); (rename @Ne Int (headP _ _).1 _ => he)
      refine cend_of F8 (newsTail N8) offI2 ⟨?_, rfl⟩
      rw [htk, List.filter_append, List.filter_cons, if_neg (by simpa using he), List.filter_nil, List.append_nil]
      exact iY
  case f7 =>
    clear F7 N7 hR7
    rintro ys nx ⟨iY, rfl⟩ D3 h3 tk3 F3 N3 O3
    rw [List.take_of_length_le (by simp [places])] at iY
    replace iY : IntsAre ys (insideP ab q) := iY
    dsimp only
    try k_fold
    walk_at "M toComp"
    have hil := inside_le ab q
    have hyl := iY.length
    refine LCg.CompSrc.ledger (by rfl) F3 N3 (.head _) (by rw [List.size_toArray, hyl, PySem.sizeLine_eq]; omega) ?_
    intro g8
    refine comp_inv (fun i zs nx => IntsAre zs (((insideP ab q).take i).map fun r => (headP ab r).2) ∧ nx = _) ys.toArray.size (fun _ _ nx hj => ?s8) ?t8 ?f8 ys.toArray.size 0 [] _ (Nat.zero_add _) ⟨.nil, rfl⟩
    case s8 =>
      obtain ⟨_, rfl⟩ := hj
      exact .inr ⟨_, .head _, rfl, _, rfl⟩
    case t8 =>
      clear F3 N3
      rintro i3 v3 zs nx3 I3 oI3 C3 oC3 D5 m₂ h tk E' hin3 hv3 ⟨iZ2, rfl⟩ hNs hx F₁ N₁ offI3 ⟨ne1, ne2, ne3⟩
      obtain ⟨r, t3, rfl, hr⟩ := IntsAre.at iY i3 v3 (by simpa using hv3)
      obtain ⟨hr0, hr1⟩ := inside_bnd (List.mem_of_getElem? hr)
      try k_fold
      k_steps
      (rename Fr _ _ _ _ => F8); (rename News _ _ _ _ => N8)
      refine cend_of F8 (newsTail N8) offI3 ⟨?_, rfl⟩
      rw [List.take_add_one, hr, List.map_append]
      exact iZ2.append (.cons _ _ .nil)
    case f8 =>
      clear F3 N3
      rintro zs nx ⟨iZ2, rfl⟩ D4 h4 tk4 F4 N4 O4
      rw [List.take_of_length_le (by rw [List.size_toArray, hyl]; exact Nat.le_refl _)] at iZ2
      have hzl2 := iZ2.length
      rw [List.length_map] at hzl2
      dsimp only
      try k_fold
      k_steps
      · exact absurd hlen.1 (by assumption)
      obtain ⟨hlen1, hlen2⟩ := hlen
      have hbd := bits12 hlen2 hil
      have hO3 := Off1_mem O3
      have n3I : @Ne Nat I D3 := hO3 _ (.head _)
      have n34 : @Ne Nat (L + 1 + 1 + 1 + 1) D3 := hO3 _ (.tail _ (.head _))
      have n33 : @Ne Nat (L + 1 + 1 + 1) D3 := hO3 _ (.tail _ (.tail _ (.head _)))
      have n32 : @Ne Nat (L + 1 + 1) D3 := hO3 _ (.tail _ (.tail _ (.tail _ (.head _))))
      have n31 : @Ne Nat (L + 1) D3 := hO3 _ (.tail _ (.tail _ (.tail _ (.tail _ (.head _)))))
      have off3 : ∀ q ∈ tabLed τ ++ R2, q.1 ≠ D3 := fun q hq => hO3 q (.tail _ (.tail _ (.tail _ (.tail _ (.tail _ hq)))))
      clear hO3 O3 O4
      (rename News _ _ _ _ => N5); (rename Fr _ _ _ _ => F5)
      replace N5 := newsTab5b N5
      k_dflt (refine' CallOkC.use (digits_ok hK (by omega) (by omega) rfl hbd.1 hbd.2 (tabOk_cons (mkTab hT hco h30 hI1 hI2 hI3 hI4 offT) fun q hq => off3 q (List.mem_append.mpr (.inl hq)))) ?k1 ?k2 ?k3 N5 ?k5 ?k6 ?kK ?kd ?ku ?_)
      case k1 => k_asm
      case k2 => k_asm
      case k3 => k_asm
      case k5 => k_asm
      case k6 => assumption
      case kK => first | exact rfl | assumption
      case kd => ktr_room
      case ku => ktr_units
      clear N5 F5
      rintro r9 n9 h9 tk9 F9 N9 ⟨D, vd, nd, c, o, rfl, hvd, hT', hDoff, rfl⟩
      obtain ⟨hT', hc3⟩ := tabOk_tail hT'
      obtain ⟨hTn, hcon, hcI, h30I⟩ := digits_back hT'
      replace N9 := newsTab6b N9
      have offT2 : ∀ q ∈ tabLed (some (c, o)) ++ R2, q.1 ≠ I := offTab2 hcI h30I offT
      have off32 : ∀ q ∈ tabLed (some (c, o)) ++ R2, q.1 ≠ D3 := offTab3 hc3 off3
      clear hoffT hA' hS' offT hDoff hT' hT hco hc3 hcI h30I
      generalize some (c, o) = τ' at *
      obtain ⟨d, od, u1, u2, u3, w4, u4, hwm, hdm, hde⟩ := hwh
      (try k_sweep)
      (try dsimp only)
      (try k_fold)
      k_steps
      · exfalso
        (rename @LT.lt Int _ _ _ => hlt)
        unfold stepsP at hhalf
        exact absurd hhalf (Int.not_le.mpr hlt)
      (rename Fr _ _ _ _ => F5); (rename News _ _ _ _ => N5)
      (rename _ ∧ _ ∧ _ ∧ _ ∧ _ ∧ _ ∧ _ ∧ _ ∧ _ => lx)
      k_dflt (refine' CallOk.use (stats_ok hK ?kt ?ks ?kd1 ?kd2 hde ⟨by assumption, by assumption, by assumption⟩) ?k1 ?k2 ?k3 N5 ?k5 ?kK ?kd ?ku ?_)
      case kt => exact .tail _ (.tail _ (.tail _ (.tail _ (.tail _ (.tail _ (.tail _ (.tail _ (.tail _ (List.mem_append.mpr (.inr hwm))))))))))
      case ks => exact .head _
      case kd1 => exact .tail _ (.tail _ (.tail _ (.tail _ (.tail _ (.tail _ (.tail _ (.tail _ (.tail _ (List.mem_append.mpr (.inr hdm))))))))))
      case kd2 => exact .tail _ (.head _)
      case k1 => k_asm
      case k2 => k_asm
      case k3 => k_asm
      case k5 => k_asm
      case kK => first | exact rfl | assumption
      case kd => ktr_room
      case ku => ktr_units
      clear N5 F5
      rintro r9 n9 h9 tk9 F9 N9 ⟨x9, d9, o9, v1, v2, v3, v4, rfl, hde9, ld9, lx9, rfl⟩
      (try k_sweep)
      (try dsimp only)
      (try k_fold)
      k_steps
      (rename Fr _ _ _ _ => F6); (rename News _ _ _ _ => N6)
      refine j2_end (R2 := (x9, tupO [.int (((insideP ab q).length : Int) + (wSum ab i).1) v1, .int (1 + (wSum ab i).2.1) v2, .int (stepsP ab q + (wSum ab i).2.2) v3, .int (0 + w4) v4, .ref d9]) :: (d9, o9) :: R2) F6 (newsSub N6 ?_) hd3 (by assumption) ?_ hcon ⟨rfl, rfl, rfl, rfl⟩ hI1 hI2 hI3 hI4 ?_ ?_ (fun r hr => .tail _ (.tail _ (hsub r hr))) ?_
      · intro r hr
        simp only [List.mem_cons, List.mem_append] at hr ⊢
        rcases hr with hr | hr | hr | hr | hr | hr | hr | hr | hr
        · exact .inr (.inr (.inr (.inr (.inr (.inr (.inl hr))))))
        · exact .inr (.inr (.inr (.inr (.inr (.inr (.inr (.inl hr)))))))
        · exact .inr (.inr (.inr (.inr (.inr (.inr (.inr (.inr (.inl hr))))))))
        · exact .inr (.inr (.inr (.inr (.inr (.inr (.inr (.inr (.inr (.inl hr)))))))))
        · exact .inr (.inr (.inr (.inr (.inr (.inr (.inr (.inr (.inr (.inr (.inl hr))))))))))
        · exact .inr (.inr (.inr (.inr (.inr (.inr (.inr (.inr (.inr (.inr (.inr (.inl hr)))))))))))
        · exact .inl hr
        · exact .inr (.inl hr)
        · exact .inr (.inr (.inr (.inr (.inr (.inr (.inr (.inr (.inr (.inr (.inr (.inr hr)))))))))))
      all_goals have ltx : ∀ r ∈ tabLed τ' ++ R2, @LT.lt Nat _ r.1 x9 := fun r hr => lx9 _ (.tail _ (.tail _ (.tail _ (.tail _ (.tail _ (.tail _ (.tail _ (.tail _ (.tail _ (.tail _ hr))))))))))
      all_goals have ltd : ∀ r ∈ tabLed τ' ++ R2, @LT.lt Nat _ r.1 d9 := fun r hr => ld9 _ (.tail _ (.tail _ (.tail _ (.tail _ (.tail _ (.tail _ (.tail _ (.tail _ (.tail _ hr)))))))))
      all_goals have ltIx : @LT.lt Nat _ I x9 := lx9 _ (.tail _ (.tail _ (.tail _ (.tail _ (.tail _ (.head _))))))
      all_goals have ltId : @LT.lt Nat _ I d9 := ld9 _ (.tail _ (.tail _ (.tail _ (.tail _ (.head _)))))
      all_goals have lt4d : @LT.lt Nat _ (L + 1 + 1 + 1 + 1) d9 := ld9 _ (.tail _ (.tail _ (.tail _ (.tail _ (.tail _ (.head _))))))
      all_goals have ltdx : @LT.lt Nat _ d9 x9 := lx9 _ (.head _)
      · refine tabOk_cons (tabOk_cons hTn ?_) ?_
        · exact fun r hr => Nat.ne_of_lt (ltd r (List.mem_append.mpr (.inl hr)))
        · exact fun r hr => Nat.ne_of_lt (ltx r (List.mem_append.mpr (.inl hr)))
      · intro r hr
        rcases List.mem_append.mp hr with hr | hr
        · exact offT2 r (List.mem_append.mpr (.inl hr))
        · rcases List.mem_cons.mp hr with rfl | hr
          · exact @Ne.symm Nat _ _ (Nat.ne_of_lt ltIx)
          · rcases List.mem_cons.mp hr with rfl | hr
            · exact @Ne.symm Nat _ _ (Nat.ne_of_lt ltId)
            · exact offT2 r (List.mem_append.mpr (.inr hr))
      · intro r hr b hb
        rcases List.mem_cons.mp hr with rfl | hr
        · simp only [List.mem_cons, List.not_mem_nil, or_false] at hb
          refine neN ?_
          dsimp only
          rcases hb with rfl | rfl | rfl | rfl | rfl <;> omega
        · rcases List.mem_cons.mp hr with rfl | hr
          · simp only [List.mem_cons, List.not_mem_nil, or_false] at hb
            refine neN ?_
            dsimp only
            rcases hb with rfl | rfl | rfl | rfl | rfl <;> omega
          · exact hoff r hr b hb
      · refine ⟨d9, o9, v1, v2, v3, 0 + w4, v4, ?_, .tail _ (.head _), hde9⟩
        rw [hws]; unfold wStep; rw [if_pos hroot]
        exact .head _
end
end Mine
end
section
open PySem PySem.W PyProof.Rows PySem.Calls
namespace Mine
/-- all that the walk asks of the plain law -/
structure Plain (ps : List (Int × Int)) : Prop where
  g1 : Good1 (joinedP ps).ab (joinedP ps).sz (lotsP ps)
  g2 : Good2 (joinedP ps).ab (joinedP ps).sz
  j0 : 0 ≤ (joinedP ps).jn
  j12 : (joinedP ps).jn ≤ 12
  w1 : (wSum (joinedP ps).ab 12).1 = 12
  w2 : (wSum (joinedP ps).ab 12).2.1 = 12 - (joinedP ps).jn
  w3 : (joinedP ps).jn ≤ (wSum (joinedP ps).ab 12).2.2
  twice : joinedP (ps ++ ps) = joinedP ps
theorem inside_sum {c : JS} {lots : List Int} {ps : List (Int × Int)} {f H D : Nat → Nat} (I : Inv c lots ps f H D) (k : Nat) : ∀ n, n ≤ 12 →
    ((((List.range n).map fun (i : Nat) => (i : Int)).filter fun q => (headP c.ab q).1 == (k : Int)).length = sumN n fun q => if H q = k then 1 else 0) ∧
    ((((List.range n).map fun (i : Nat) => (i : Int)).filter fun q => (headP c.ab q).1 == (k : Int)).map fun q => (headP c.ab q).2).sum = ((sumN n fun q => if H q = k then D q else 0 : Nat) : Int)
  | 0, _ => ⟨rfl, rfl⟩
  | n + 1, hn => by
    obtain ⟨h1, h2⟩ := inside_sum I k n (by omega)
    have hh := I.head (q := n) (by omega)
    rw [List.range_succ, List.map_append, List.filter_append, List.map_append, List.length_append, List.sum_append, h1, h2]
    show _ = sumN n (fun q => if H q = k then 1 else 0) + (if H n = k then 1 else 0) ∧ _ = ((sumN n (fun q => if H q = k then D q else 0) + (if H n = k then D n else 0) : Nat) : Int)
    rw [List.map_cons, List.map_nil, List.filter_cons, hh]
    by_cases e : H n = k
    · subst e
      simp [hh]
    · have e' : ((H n : Int) == (k : Int)) = false := by rw [beq_eq_false_iff_ne]; omega
      dsimp only
      rw [e', if_neg e, if_neg e]
      simp
theorem Inv.inside {c : JS} {lots : List Int} {ps : List (Int × Int)} {f H D : Nat → Nat} (I : Inv c lots ps f H D) (k : Nat) : (insideP c.ab (k : Int)).length = cnt H k := (inside_sum I k 12 (Nat.le_refl _)).1
theorem Inv.stepsK {c : JS} {lots : List Int} {ps : List (Int × Int)} {f H D : Nat → Nat} (I : Inv c lots ps f H D) (k : Nat) : stepsP c.ab (k : Int) = (sm H D k : Int) := (inside_sum I k 12 (Nat.le_refl _)).2
theorem Inv.root {c : JS} {lots : List Int} {ps : List (Int × Int)} {f H D : Nat → Nat} (I : Inv c lots ps f H D) {h : Nat} (hh : h < 12) : c.ab.getD h 0 = (h : Int) ↔ D h = 0 := by
  rw [I.abf h hh]
  constructor
  · intro e
    by_cases h0 : D h = 0
    · exact h0
    · have := (I.S h hh h0).1
      rw [show f h = h by omega] at this
      omega
  · intro e; rw [(I.R h hh e).2]
theorem Inv.cnt0 {c : JS} {lots : List Int} {ps : List (Int × Int)} {f H D : Nat → Nat} (I : Inv c lots ps f H D) {h : Nat} (e : D h ≠ 0) : cnt H h = 0 ∧ sm H D h = 0 := by
  have hne : ∀ q, q < 12 → H q ≠ h := fun q hq e' => by
    have := (I.Hb q hq).2
    rw [e'] at this; exact e this
  constructor
  · exact Eq.trans (sumN_congr 12 fun q hq => if_neg (hne q hq)) (sumN_zero 12)
  · exact Eq.trans (sumN_congr 12 fun q hq => if_neg (hne q hq)) (sumN_zero 12)
theorem Inv.wsum {c : JS} {lots : List Int} {ps : List (Int × Int)} {f H D : Nat → Nat} (I : Inv c lots ps f H D) : ∀ n, n ≤ 12 →
    wSum c.ab n = (((sumN n (cnt H) : Nat) : Int), ((sumN n fun q => if D q = 0 then 1 else 0 : Nat) : Int), ((sumN n (sm H D) : Nat) : Int))
  | 0, _ => rfl
  | n + 1, hn => by
    rw [wSum_succ, I.wsum n (by omega)]
    unfold wStep
    rw [Int.toNat_natCast, I.inside, I.stepsK]
    show _ = (((sumN n (cnt H) + cnt H n : Nat) : Int), ((sumN n (fun q => if D q = 0 then 1 else 0) + (if D n = 0 then 1 else 0) : Nat) : Int), ((sumN n (sm H D) + sm H D n : Nat) : Int))
    by_cases e : D n = 0
    · rw [if_pos ((I.root (by omega)).mpr e), if_pos e]
      refine Prod.ext ?_ (Prod.ext ?_ ?_) <;> dsimp only <;> omega
    · obtain ⟨z1, z2⟩ := I.cnt0 e
      rw [if_neg (fun x => e ((I.root (by omega)).mp x)), if_neg e, z1, z2]
      rfl
theorem Inv.all12 {c : JS} {lots : List Int} {ps : List (Int × Int)} {f H D : Nat → Nat} (I : Inv c lots ps f H D) : sumN 12 (cnt H) = 12 ∧ sumN 12 (sm H D) = sumN 12 D := by
  constructor
  · show sumN 12 (fun h => sumN 12 fun q => if H q = h then 1 else 0) = 12
    rw [sumN_swap]
    refine Eq.trans (sumN_congr 12 fun q hq => ?_) (sumN_one 12)
    rw [sumN_single, if_pos (I.Hb q hq).1]
  · show sumN 12 (fun h => sumN 12 fun q => if H q = h then D q else 0) = _
    rw [sumN_swap]
    refine sumN_congr 12 fun q hq => ?_
    rw [sumN_single, if_pos (I.Hb q hq).1]
theorem Inv.low {c : JS} {lots : List Int} {ps : List (Int × Int)} {f H D : Nat → Nat} (I : Inv c lots ps f H D) : c.jn ≤ (sumN 12 D : Nat) ∧ 0 ≤ c.jn ∧ c.jn ≤ 12 := by
  have hj := I.jn
  have h1 : rts D ≤ 12 := by
    have := sumN_le (f := fun q => if D q = 0 then 1 else 0) (g := fun _ => 1) 12 (fun i _ => by split <;> omega)
    rw [sumN_one] at this
    exact this
  have h2 : 12 ≤ sumN 12 D + rts D := by
    unfold rts
    rw [← sumN_add]
    refine Nat.le_trans (Nat.le_of_eq (sumN_one 12).symm) (sumN_le 12 fun q _ => ?_)
    split <;> omega
  omega
theorem plain (ps : List (Int × Int)) (h : ∀ ab ∈ ps, (0 ≤ ab.1 ∧ ab.1 < 12) ∧ (0 ≤ ab.2 ∧ ab.2 < 12)) : Plain ps := by
  obtain ⟨f, H, D, I⟩ := inv_all ps h
  have hw := I.wsum 12 (Nat.le_refl _)
  obtain ⟨t1, t2⟩ := I.all12
  obtain ⟨l1, l2, l3⟩ := I.low
  have hz : ∀ q, q < 12 → (joinedP ps).sz.getD (H q) 0 = (cnt H (H q) : Int) := fun q hq => I.szr _ (I.Hb q hq).1 (I.Hb q hq).2
  refine ⟨⟨I.wf, I.szl, I.szb, I.ll, ?_, ?_, ?_⟩, ⟨I.wf, I.szl, I.szb, ?_, ?_⟩, l2, l3, ?_, ?_, ?_, twice ps h⟩
  · intro q q0 q1
    have e := I.head (q := q.toNat) (by omega)
    rw [show ((q.toNat : Nat) : Int) = q by omega] at e
    rw [e]
    dsimp only
    rw [Int.toNat_natCast, Int.toNat_natCast, hz _ (by omega)]
    have := I.pow q.toNat (by omega)
    exact_mod_cast this
  · intro q q0 q1
    have e := I.head (q := q.toNat) (by omega)
    rw [show ((q.toNat : Nat) : Int) = q by omega] at e
    rw [e]
    dsimp only
    rw [Int.toNat_natCast, hz _ (by omega)]
    have hp := I.pow q.toNat (by omega)
    have hc := cnt_le H (H q.toNat)
    have := pow_bits ⟨cnt H (H q.toNat), by omega⟩ ⟨D q.toNat, d_small hp hc⟩ hp
    dsimp only at this
    omega
  · intro q r q0 q1 r0 r1
    have e := I.head (q := q.toNat) (by omega)
    rw [show ((q.toNat : Nat) : Int) = q by omega] at e
    have e2 := I.head (q := r.toNat) (by omega)
    rw [show ((r.toNat : Nat) : Int) = r by omega] at e2
    rw [e, e2]
    dsimp only
    rw [I.same r.toNat (by omega) q.toNat (by omega)]
    omega
  · intro x x0 x1 hx
    have ex : ((x.toNat : Nat) : Int) = x := by omega
    have h0 : D x.toNat = 0 := (I.root (by omega)).mp (by rw [ex]; exact hx)
    have hi := I.inside x.toNat
    rw [ex] at hi
    rw [hi, I.szr _ (by omega) h0]
    refine ⟨rfl, ?_⟩
    have := sumN_pos (f := fun q => if H q = x.toNat then 1 else 0) (k := x.toNat) 12 (by omega)
    rw [if_pos (I.R _ (by omega) h0).1] at this
    exact this
  · intro x x0 x1 hx
    have ex : ((x.toNat : Nat) : Int) = x := by omega
    have h0 : D x.toNat = 0 := (I.root (by omega)).mp (by rw [ex]; exact hx)
    have hi := I.inside x.toNat
    have hs := I.stepsK x.toNat
    rw [ex] at hi hs
    rw [hi, hs]
    have hh := I.half _ (by omega) h0
    have hb := M_bits ⟨cnt H x.toNat, by have := cnt_le H x.toNat; omega⟩
    dsimp only at hb
    have := Nat.le_trans hh hb
    exact_mod_cast this
  · rw [hw, t1]; rfl
  · rw [hw]
    have := I.jn
    unfold rts at this
    dsimp only
    omega
  · rw [hw, t2]; exact l1
end Mine
end
section
open PySem PySem.W PyProof.Rows PySem.Calls
set_option maxRecDepth 100000
namespace Mine
section
variable {prog : Program} {w : World} {A : Around} {E : Value → Shared → Prop} {s : Shared}
theorem adjust_to : Builtin.Slice.sliceAdjust none (some (2 : Int)) 1 (5 : Int) = ((0 : Int), (2 : Int)) := by decide
theorem applied_to {sl : Addr} {u : Tok} {Q : Int × Int × Nat → Shared → Prop} (hs : s.heap.IsSliceOf sl .none (.int 2 u) .none) (h : Q ((0 : Int), 1, 2) s) :
    wpAny (model prog w) A (Builtin.Slice.sliceApplied (.ref sl) (pure ((5 : Nat) : Int))) Q E s := by
  obtain ⟨os, hos, hcs, hds⟩ := id hs
  unfold Builtin.Slice.sliceApplied Builtin.Slice.sliceFields
  refine wpAny_bind (wpAny_bind (wpAny_field hos hds (x := .none) rfl (wpAny_bind (wpAny_field hos hds (x := .int 2 u) rfl (wpAny_bind (wpAny_field hos hds (x := .none) rfl (wpAny_pure ?_)))))))
  refine wpAny_bind (slicePart_none ?_)
  show wpAny _ _ (if ((1 : Int) == 0) = true then _ else _) _ _ s
  rw [if_neg (by decide)]
  refine wpAny_bind (slicePart_none (wpAny_bind (slicePart_int (wpAny_bind (wpAny_pure ?_)))))
  show wpAny _ _ (match Builtin.Slice.sliceAdjust none (some (2 : Int)) 1 (5 : Int) with | (lo, hi) => pure (lo, (1 : Int), Builtin.Slice.slicePlaces lo hi 1)) _ _ s
  rw [adjust_to]
  exact wpAny_pure h
theorem getItem_two {t sl : Addr} {a b c d e : Value} {u : Tok} {Q : Value → Shared → Prop} (ht : IsTup s.heap t #[a, b, c, d, e]) (hs : s.heap.IsSliceOf sl .none (.int 2 u) .none)
    (h : Q (.ref s.heap.objs.size) { s with heap := s.heap.push { cls := .type "tuple", data := .seq #[a, b] } }) : wpAny (model prog w) A (getItem (.ref t) (.ref sl)) Q E s := by
  have hdrop : sizeOk (.seq #[a, b]) := by
    show (2 : Nat) ≤ sizeLine
    rw [PySem.sizeLine_eq]; decide
  obtain ⟨os, hos, hcs, hds⟩ := id hs
  have hTs : s.TypeIs (.ref sl) "slice" := ⟨os, hos, hcs⟩
  unfold getItem
  try with_reducible refine wpAny_holding ?_
  first | refine wpAny_bind (wpAny_pure ?_) | skip
  refine wpAny_bind (wpAny_sequenceKey ht.typeIs (by decide) ?_)
  refine wpAny_bind (wpAny_callSpecial?_slot (name := Str.ofString "__getitem__") ht.typeIs slot_tuple_getitem
    (wpAny_call_entry slot_tuple_getitem ht.typeIs entry_tuple_getitem ?_ (args_tuple_getitem _ _)))
  show wpAny _ _ (Builtin.Tuple.tupleItemsOf (.ref t) >>= _) _ _ s
  refine wpAny_bind (tupleItemsOf_ ht ?_)
  refine wpAny_bind (wpAny_typeOf hTs ?_)
  rw [if_pos (by decide)]
  refine wpAny_bind (applied_to hs ?_)
  show wpAny _ _ (if ((0 : Int) == 0 && (1 : Int) == 1 && (2 : Nat) == 5) = true then _ else _) _ _ s
  rw [if_neg (by decide)]
  have e1 : ((List.range 2).filterMap fun (k : Nat) => (#[a, b, c, d, e] : Array Value)[((0 : Int) + (k : Int) * 1).toNat]?).toArray = #[a, b] := rfl
  rw [e1]
  first
    | exact wpAny_bind (m := Builtin.Tuple.tupleExact _) (wpAny_newObj_type (wpAny_pure ⟨_, rfl, wpAny_pure h⟩) hdrop)
    | exact wpAny_bind (m := Builtin.Tuple.tupleExact _) (wpAny_newObj_type (wpAny_bind (wpAny_pure (wpAny_pure ⟨_, rfl, wpAny_pure h⟩))) hdrop)
    | exact wpAny_bind (wpAny_bind (m := Builtin.Tuple.tupleExact _) (wpAny_newObj_type (wpAny_pure (wpAny_pure ⟨_, rfl, wpAny_pure h⟩)) hdrop))
    | exact wpAny_bind (wpAny_bind (m := Builtin.Tuple.tupleExact _) (wpAny_newObj_type (wpAny_pure ⟨_, rfl, wpAny_pure h⟩) hdrop))
end
section
variable {prog : Program} {w : World} {A : Around} {E : Value → Shared → Prop} {s : Shared} {h₀ : Heap} {L : Addr} {m : Str → Option Value} {news : List (Addr × Obj)}
theorem slice_two {value slice : Expr} {t : Addr} {a b c d e : Value} {u : Tok} {Q : Value → Shared → Prop}
    (F : Fr h₀ L s.heap m) (N : News h₀ L s.heap news) (hm : (t, tupO [a, b, c, d, e]) ∈ news)
    (h : ∀ D h', Fr h₀ L h' m → News h₀ L h' ((D, tupO [a, b]) :: news) → (∀ p ∈ news, p.1 < D) → Q (.ref D) { s with heap := h' })
    (hs : subscripted slice false (.ref t) (.ref s.heap.objs.size) = operate [.ref s.heap.objs.size, .ref t] (getItem (.ref t) (.ref s.heap.objs.size)) := by with_unfolding_all rfl)
    (hg : ∀ r, letTemporaryGo value (.ref t) r = pure () := by intro _; with_unfolding_all rfl) :
    wpAny (model prog w) A (subscriptTail value slice (.ref t) (.ref s.heap.objs.size)) Q E { s with heap := s.heap.push { cls := .type "slice", data := .fields #[.none, .int 2 u, .none] } } := by
  have ht : IsTup s.heap t #[a, b, c, d, e] := ⟨_, (N _ hm).1, rfl, _, rfl⟩
  have ht' : IsTup (s.heap.push { cls := .type "slice", data := .fields #[.none, .int 2 u, .none] }) t #[a, b, c, d, e] := ht.keeps fun _ _ e => Heap.get?_push_of_some _ e
  refine subscriptTail_ops (s := { s with heap := s.heap.push { cls := .type "slice", data := .fields #[.none, .int 2 u, .none] } }) ht'.typeIs slot_tuple_getitem.lookup
    (getItem_two ht' (Heap.IsSliceOf.new ..) ?_) hs hg
  have N1 := News.push (F.push { cls := .type "slice", data := .fields #[.none, .int 2 u, .none] }) (N.grown fun _ _ e => Heap.get?_push_of_some _ e) { cls := .type "tuple", data := .seq #[a, b] }
  rw [Heap.size_push] at N1
  show Q (.ref (s.heap.push _).objs.size) _
  rw [Heap.size_push]
  exact h _ _ ((F.push _).push _) N1 fun p hp => Nat.lt_succ_of_lt (Heap.lt_size (N p hp).1)
theorem add_fresh {l b : Addr} {vs ws : List Value} {Q : Value → Shared → Prop} {n k : Nat} (F : Fr h₀ L s.heap m) (N : News h₀ L s.heap news) (hl : (l, listOf vs.toArray n) ∈ news) (hb : (b, listOf ws.toArray k) ∈ news)
    (h : ∀ D h', Fr h₀ L h' m → News h₀ L h' ((D, listOf (vs ++ ws).toArray 0) :: news) → (∀ p ∈ news, p.1 < D) → Q (.ref D) { s with heap := h' })
    (hsz : vs.length + ws.length ≤ sizeLine) :
    wpAny (model prog w) A (binaryOp .Add (.ref l) (.ref b)) Q E s :=
  add_lists F N (IsL.isList (n := n) (N _ hl).1) (IsL.isList (n := k) (N _ hb).1) (fun h' F' N' => h _ h' F' N' fun p hp => Heap.lt_size (N p hp).1) hsz
theorem eq_state {x y la ls lb lz : Addr} {va vz vb vy : List Value} {na nz nb ny : Nat} {j : Int} {t t' : Tok} {ab sz : List Int} {Q : Value → Shared → Prop} (N : News h₀ L s.heap news)
    (hx : (x, tupO [.ref la, .ref ls, .int j t]) ∈ news) (hy : (y, tupO [.ref lb, .ref lz, .int j t']) ∈ news) (ha : (la, listOf va.toArray na) ∈ news) (hs : (ls, listOf vz.toArray nz) ∈ news) (hb : (lb, listOf vb.toArray nb) ∈ news) (hz : (lz, listOf vy.toArray ny) ∈ news)
    (ia : IntsAre va ab) (is : IntsAre vz sz) (ib : IntsAre vb ab) (iz : IntsAre vy sz) (hu : A.units + 64 < cLine) (h : Q (.bool true) s) : wpAny (model prog w) A (compareOp .Eq (.ref x) (.ref y)) Q E s := by
  have sh : SeqAt.shaped (.tuple [.list (ab.map PyData.int), .list (sz.map PyData.int), .int j]) = true := by
    simp [SeqAt.shaped, PyData.canLayAll0, PyData.depthAll, PyData.canLay0, PyData.depth, ke_canLayAll0, ke_depthAll]
  refine eq_dataH (reads_tuple_at (N.get hx) rfl rfl (.cons (reads_newData (IsL.isList (n := na) (N _ ha).1) (ke_carried ia)) (.cons (reads_newData (IsL.isList (n := nz) (N _ hs).1) (ke_carried is)) (.cons (.int _ _) .nil))))
    (reads_tuple_at (N.get hy) rfl rfl (.cons (reads_newData (IsL.isList (n := nb) (N _ hb).1) (ke_carried ib)) (.cons (reads_newData (IsL.isList (n := ny) (N _ hz).1) (ke_carried iz)) (.cons (.int _ _) .nil)))) sh sh hu ?_
  have e : PyData.eqv (.tuple [.list (ab.map PyData.int), .list (sz.map PyData.int), .int j]) (.tuple [.list (ab.map PyData.int), .list (sz.map PyData.int), .int j]) = true := by
    simp [PyData.eqv, PyData.eqvAll, ked_eqvAll]
  rw [e]; exact h
end
end Mine
end
section
open PySem PySem.W PyProof.Rows PySem.Calls
set_option maxRecDepth 100000
set_option maxHeartbeats 0
set_option rowWalk.seconds 0
namespace Mine
section
variable {prog : Program} {w : World} {K : Frag} {p : Program} {loose : List Str} {mean : ExcName → Option Value} {mg mb : Str → Option Value}
local macro_rules | `(tactic| k_is) => `(tactic| with_reducible assumption)
local macro_rules | `(tactic| k_mem) => `(tactic| assumption)
local macro_rules | `(tactic| walk_at "newTuple") => `(tactic| (
  k_here
  k_dflt (refine' newTuple_fr ?k1 ?k2 ?_ ?z; (case k1 => k_asm); (case k2 => k_asm); (case z => size_fits))
  intro x' h' F' N' l1
  (try k_lt l1)
  (try k_sweep)))
theorem ownOff_cons5 {D : Nat} {o : Obj} {R : List (Addr × Obj)} {b1 b2 b3 b4 b5 : Nat} (h : OwnOff R [b1, b2, b3, b4, b5]) (h1 : @Ne Nat D b1) (h2 : @Ne Nat D b2) (h3 : @Ne Nat D b3) (h4 : @Ne Nat D b4) (h5 : @Ne Nat D b5) : OwnOff ((D, o) :: R) [b1, b2, b3, b4, b5] := by
  intro r hr b hb
  rcases List.mem_cons.mp hr with rfl | hr
  · simp only [List.mem_cons, List.not_mem_nil, or_false] at hb
    rcases hb with rfl | rfl | rfl | rfl | rfl <;> assumption
  · exact h r hr b hb
theorem tabNone {R : List (Addr × Obj)} {bs : List Nat} (h : OwnOff R (30 :: bs)) : TabOk none R := fun r hr b hb => by
  rw [List.mem_singleton.mp hb]; exact h r hr _ (.head _)
theorem loop1_use (hK : KF K) {dp un : Nat} {gd : Option (List Code)} {a : Addr} {ccd : Value} {outer : List Env} {A₀ : Around} {base h₀ : Heap} {L : Addr} {m : Str → Option Value} {s : Shared} {Q : Flow → Shared → Prop} {E : Value → Shared → Prop}
    {x x1 d1 : Addr} {ox ow od op : Obj} {lA lS lL lp na nz nl : Nat} {va vz vl : List Value} {ab sz lots : List Int} {j : Int} {tj : Tok} {tps : List (Addr × Obj)} {o1 o2 o3 o4 : Obj} {c3 c4 : Option Value}
    (B : Below A₀ base outer h₀) (F : Fr h₀ L s.heap m) (X : K.In h₀) (T : Top p loose mean mg mb h₀) (hCode : CodeHd base 34 30)
    (N : News h₀ L s.heap ((x, ox) :: (x1, ow) :: (d1, od) :: (lL, listOf vl.toArray nl) :: (lA, listOf va.toArray na) :: (lS, listOf vz.toArray nz) :: (lp, op) :: (L + 1 + 1 + 1 + 1, o4) :: (L + 1 + 1 + 1, o3) :: (L + 1 + 1, o2) :: (L + 1, o1) :: (30, tabObj #[]) :: tps))
    (hc1 : o1.data = .cell (some (.ref lA))) (hc2 : o2.data = .cell (some (.ref lL))) (hc3 : o3.data = .cell c3) (hc4 : o4.data = .cell c4) (h30 : @LT.lt Nat _ 30 L) (hk : Keeps m lS lp x1 j tj)
    (iA : IntsAre va ab) (iZ : IntsAre vz sz) (iL : IntsAre vl lots) (G : Good1 ab sz lots)
    (hoff : OwnOff ((x1, ow) :: (d1, od) :: (lL, listOf vl.toArray nl) :: (lA, listOf va.toArray na) :: (lS, listOf vz.toArray nz) :: (lp, op) :: tps) [30, L + 1, L + 1 + 1, L + 1 + 1 + 1, L + 1 + 1 + 1 + 1]) (hd : dp + 10 < recursionLimit) (hu : un + 80 < cLine)
    (hE : PassesOwn (model prog w) (ktrTop dp un gd (Str.ofString "law") (fScope sLaw) L a ccd (lawCl L) outer) (lawEnv L a ccd) E)
    (done : ∀ m₁ nx h tk, OwnOff ((x1, ow) :: (d1, od) :: (lL, listOf vl.toArray nl) :: (lA, listOf va.toArray na) :: (lS, listOf vz.toArray nz) :: (lp, op) :: tps) [30, L + 1, L + 1 + 1, L + 1 + 1 + 1, L + 1 + 1 + 1 + 1] → J1 L ((x1, ow) :: (d1, od) :: (lL, listOf vl.toArray nl) :: (lA, listOf va.toArray na) :: (lS, listOf vz.toArray nz) :: (lp, op) :: tps) o1 o2 lS lp x1 j tj 12 m₁ nx → Fr h₀ L h m₁ → News h₀ L h nx → Q .next { s with heap := h, toks := tk }) :
    wpAny (model prog w) (ktrTop dp un gd (Str.ofString "law") (fScope sLaw) L a ccd (lawCl L) outer) (exec sLoop1 (lawEnv L a ccd)) Q E s :=
  loop1_ok hK B F X T hCode (nx := (L + 1 + 1 + 1 + 1, o4) :: (L + 1 + 1 + 1, o3) :: (L + 1 + 1, o2) :: (L + 1, o1) :: (tabLed none ++ ((x1, ow) :: (d1, od) :: (lL, listOf vl.toArray nl) :: (lA, listOf va.toArray na) :: (lS, listOf vz.toArray nz) :: (lp, op) :: tps))) (newsSub N (List.forall_mem_cons.mpr ⟨(.tail _ (.tail _ (.tail _ (.tail _ (.tail _ (.tail _ (.tail _ (.head _)))))))), List.forall_mem_cons.mpr ⟨(.tail _ (.tail _ (.tail _ (.tail _ (.tail _ (.tail _ (.tail _ (.tail _ (.head _))))))))), List.forall_mem_cons.mpr ⟨(.tail _ (.tail _ (.tail _ (.tail _ (.tail _ (.tail _ (.tail _ (.tail _ (.tail _ (.head _)))))))))), List.forall_mem_cons.mpr ⟨(.tail _ (.tail _ (.tail _ (.tail _ (.tail _ (.tail _ (.tail _ (.tail _ (.tail _ (.tail _ (.head _))))))))))), List.forall_mem_cons.mpr ⟨(.tail _ (.tail _ (.tail _ (.tail _ (.tail _ (.tail _ (.tail _ (.tail _ (.tail _ (.tail _ (.tail _ (.head _)))))))))))), List.forall_mem_cons.mpr ⟨(.tail _ (.head _)), List.forall_mem_cons.mpr ⟨(.tail _ (.tail _ (.head _))), List.forall_mem_cons.mpr ⟨(.tail _ (.tail _ (.tail _ (.head _)))), List.forall_mem_cons.mpr ⟨(.tail _ (.tail _ (.tail _ (.tail _ (.head _))))), List.forall_mem_cons.mpr ⟨(.tail _ (.tail _ (.tail _ (.tail _ (.tail _ (.head _)))))), List.forall_mem_cons.mpr ⟨(.tail _ (.tail _ (.tail _ (.tail _ (.tail _ (.tail _ (.head _))))))), fun q hq => (.tail _ (.tail _ (.tail _ (.tail _ (.tail _ (.tail _ (.tail _ (.tail _ (.tail _ (.tail _ (.tail _ (.tail _ hq))))))))))))⟩⟩⟩⟩⟩⟩⟩⟩⟩⟩⟩)) ⟨none, o3, o4, c3, c4, rfl, hc3, hc4, tabNone hoff, trivial, hk⟩ hc1 hc2 h30
    (.tail _ (.tail _ (.tail _ (.head _)))) (.tail _ (.tail _ (.tail _ (.tail _ (.head _))))) (.tail _ (.tail _ (.head _))) iA iZ iL G hoff hd hu hE fun m₁ nx h tk => done m₁ nx h tk hoff
theorem loop2_use (hK : KF K) {dp un : Nat} {gd : Option (List Code)} {a : Addr} {ccd : Value} {outer : List Env} {A₀ : Around} {base h₀ : Heap} {L : Addr} {m : Str → Option Value} {s : Shared} {Q : Flow → Shared → Prop} {E : Value → Shared → Prop}
    {x1 d1 : Addr} {od op : Obj} {lA lS lL lp na nz nl : Nat} {va vz vl : List Value} {ab sz : List Int} {j : Int} {tj u1 u2 u3 u4 : Tok} {tps : List (Addr × Obj)} {o1 o2 o3 o4 : Obj} {c3 c4 : Option Value} {τ : Option (Addr × Obj)}
    (B : Below A₀ base outer h₀) (F : Fr h₀ L s.heap m) (X : K.In h₀) (T : Top p loose mean mg mb h₀) (hCode : CodeHd base 34 30)
    (N : News h₀ L s.heap ((L + 1 + 1 + 1 + 1, o4) :: (L + 1 + 1 + 1, o3) :: (L + 1 + 1, o2) :: (L + 1, o1) :: (tabLed τ ++ ((x1, tupO [.int 0 u1, .int 0 u2, .int 0 u3, .int 0 u4, .ref d1]) :: (d1, od) :: (lL, listOf vl.toArray nl) :: (lA, listOf va.toArray na) :: (lS, listOf vz.toArray nz) :: (lp, op) :: tps))))
    (hc1 : o1.data = .cell (some (.ref lA))) (hc3 : o3.data = .cell c3) (hc4 : o4.data = .cell c4) (h30 : @LT.lt Nat _ 30 L) (hT : TabOk τ ((x1, tupO [.int 0 u1, .int 0 u2, .int 0 u3, .int 0 u4, .ref d1]) :: (d1, od) :: (lL, listOf vl.toArray nl) :: (lA, listOf va.toArray na) :: (lS, listOf vz.toArray nz) :: (lp, op) :: tps)) (hco : CellOff L τ) (hk : Keeps m lS lp x1 j tj) (hde : EmptyD prog w d1 od)
    (iA : IntsAre va ab) (iZ : IntsAre vz sz) (G : Good2 ab sz)
    (hoff : OwnOff ((x1, tupO [.int 0 u1, .int 0 u2, .int 0 u3, .int 0 u4, .ref d1]) :: (d1, od) :: (lL, listOf vl.toArray nl) :: (lA, listOf va.toArray na) :: (lS, listOf vz.toArray nz) :: (lp, op) :: tps) [30, L + 1, L + 1 + 1, L + 1 + 1 + 1, L + 1 + 1 + 1 + 1]) (hd : dp + 10 < recursionLimit) (hu : un + 80 < cLine)
    (hE : PassesOwn (model prog w) (ktrTop dp un gd (Str.ofString "law") (fScope sLaw) L a ccd (lawCl L) outer) (lawEnv L a ccd) E)
    (done : ∀ m₁ nx h tk, J2 prog w L ((x1, tupO [.int 0 u1, .int 0 u2, .int 0 u3, .int 0 u4, .ref d1]) :: (d1, od) :: (lL, listOf vl.toArray nl) :: (lA, listOf va.toArray na) :: (lS, listOf vz.toArray nz) :: (lp, op) :: tps) o1 o2 lS lp j tj ab 12 m₁ nx → Fr h₀ L h m₁ → News h₀ L h nx → Q .next { s with heap := h, toks := tk }) :
    wpAny (model prog w) (ktrTop dp un gd (Str.ofString "law") (fScope sLaw) L a ccd (lawCl L) outer) (exec sLoop2 (lawEnv L a ccd)) Q E s :=
  loop2_ok hK B F X T hCode N ⟨τ, ((x1, tupO [.int 0 u1, .int 0 u2, .int 0 u3, .int 0 u4, .ref d1]) :: (d1, od) :: (lL, listOf vl.toArray nl) :: (lA, listOf va.toArray na) :: (lS, listOf vz.toArray nz) :: (lp, op) :: tps), x1, o3, o4, c3, c4, rfl, hc3, hc4, hT, hco, hk, hoff, fun _ h => h, d1, od, u1, u2, u3, 0, u4, .head _, .tail _ (.head _), hde⟩ hc1 h30
    (.tail _ (.tail _ (.tail _ (.head _)))) (.tail _ (.tail _ (.tail _ (.tail _ (.head _))))) iA iZ G hd hu hE done
theorem PairsAt.twice {news : List (Addr × Obj)} {vs : List Value} {ps : List (Int × Int)} (h : PairsAt news vs ps) : PairsAt news (vs ++ vs) (ps ++ ps) := by
  refine ⟨by rw [List.length_append, List.length_append, h.len], fun i u hu => ?_, fun x hx => ?_⟩
  · by_cases hi : i < vs.length
    · rw [List.getElem?_append_left hi] at hu
      obtain ⟨ab', h1, h2⟩ := h.at' i u hu
      exact ⟨ab', by rw [List.getElem?_append_left (by rw [← h.len]; exact hi)]; exact h1, h2⟩
    · have hi' : vs.length ≤ i := by omega
      rw [List.getElem?_append_right hi'] at hu
      obtain ⟨ab', h1, h2⟩ := h.at' _ u hu
      exact ⟨ab', by rw [List.getElem?_append_right (by rw [← h.len]; exact hi'), ← h.len]; exact h1, h2⟩
  · rcases List.mem_append.mp hx with hx | hx <;> exact h.bnd x hx
theorem tab30 (τ : Option (Addr × Obj)) : ∃ ps, (30, tabObj ps) ∈ tabLed τ := by
  match τ with
  | none => exact ⟨_, .head _⟩
  | some (c, o) => exact ⟨_, .head _⟩
theorem rest_ok (hK : KF K) {dp un : Nat} {gd : Option (List Code)} {a : Addr} {ccd : Value} {outer : List Env} {A₀ : Around} {base h₀ : Heap} {L : Addr} {m : Str → Option Value} {s : Shared} {Q : Flow → Shared → Prop} {E : Value → Shared → Prop}
    {lp nk : Nat} {ys : List Value} {ps : List (Int × Int)} {tps : List (Addr × Obj)} {o1 o2 o3 o4 : Obj} {c1 c2 c3 c4 : Option Value}
    (B : Below A₀ base outer h₀) (F : Fr h₀ L s.heap m) (X : K.In h₀) (hm : m (Str.ofString "pairs") = some (.ref lp))
    (N : News h₀ L s.heap ((lp, listOf ys.toArray nk) :: (L + 1 + 1 + 1 + 1, o4) :: (L + 1 + 1 + 1, o3) :: (L + 1 + 1, o2) :: (L + 1, o1) :: (30, tabObj #[]) :: tps)) (T : Top p loose mean mg mb h₀) (hCode : CodeHd base 34 30)
    (hc1 : o1.data = .cell c1) (hc2 : o2.data = .cell c2) (hc3 : o3.data = .cell c3) (hc4 : o4.data = .cell c4) (h30 : @LT.lt Nat _ 30 L)
    (hp : PairsAt tps ys ps) (hlen : ps.length ≤ 16) (hoff : OwnOff tps [30, L + 1, L + 1 + 1, L + 1 + 1 + 1, L + 1 + 1 + 1 + 1])
    (hp1 : @Ne Nat lp (L + 1)) (hp2 : @Ne Nat lp (L + 1 + 1)) (hp3 : @Ne Nat lp (L + 1 + 1 + 1)) (hp4 : @Ne Nat lp (L + 1 + 1 + 1 + 1)) (hp30 : @Ne Nat lp 30) (hd : dp + 10 < recursionLimit) (hu : un + 80 < cLine)
    (hE : PassesOwn (model prog w) (ktrTop dp un gd (Str.ofString "law") (fScope sLaw) L a ccd (lawCl L) outer) (lawEnv L a ccd) E)
    (hret : ∀ h' tk' m' news' ps, Fr h₀ L h' m' → News h₀ L h' news' → (30, tabObj ps) ∈ news' → Q (.ret (.bool true)) { s with heap := h', toks := tk' }) :
    wpAny (model prog w) (ktrTop dp un gd (Str.ofString "law") (fScope sLaw) L a ccd (lawCl L) outer) (execs (tlS (fBody sLaw)) (lawEnv L a ccd)) Q E s := by
  have hnJ := hK.nJoined
  have hkJ := hK.oJoined.keep
  have hnH := hK.nHead
  have hkH := hK.oHead.keep
  have hnT := hK.nLots
  have hkT := hK.oLots.keep
  have hnD := hK.nDigits
  have hkD := hK.oDigits.keep
  have hnS := hK.nStats
  have hkS := hK.oStats.keep
  have hnR := hK.nRange
  have hnL := hK.nLen
  have hnU := hK.nSum
  dsimp only [lawEnv, lawCl, sLaw, bd, PySem.Challenge.pw_gm0001_01, tlS, hdS, fArgs, fBody, fScope]
  replace F := fr_norm F (norm1 hm)
  k_with "call ref" => (
    (with_reducible show wpAny _ _ (call (Value.ref 49) [Value.ref _]) _ _ _)
    k_dflt (refine' CallOk.use (joined_ok (by assumption) ?m ?p) ?k1 ?k2 ?k3 ?k4 ?k5 ?kK ?kd ?ku ?_)
    case k1 => k_asm
    case k2 => k_asm
    case k3 => k_asm
    case k4 => k_asm
    case k5 => k_asm
    case m => exact .head _
    case p => exact hp.mono (by kcf_all)
    case kK => first | exact rfl | assumption
    case kd => ktr_room
    case ku => ktr_units
    rintro r9 n9 h9 tk9 F9 N9 ⟨x9, lA, lS, va, na, vz, nz, t9, rfl, hAS, hofA, l9, iA, iZ, rfl⟩
    have hA1 : @Ne Nat (L + 1) lA := hofA _ (.tail _ (.tail _ (.tail _ (.tail _ (.head _))))) _ (.head _)
    have hA2 : @Ne Nat (L + 1 + 1) lA := hofA _ (.tail _ (.tail _ (.tail _ (.head _)))) _ (.head _)
    have hA3 : @Ne Nat (L + 1 + 1 + 1) lA := hofA _ (.tail _ (.tail _ (.head _))) _ (.head _)
    have hA4 : @Ne Nat (L + 1 + 1 + 1 + 1) lA := hofA _ (.tail _ (.head _)) _ (.head _)
    have hA30 : @Ne Nat 30 lA := hofA _ (.tail _ (.tail _ (.tail _ (.tail _ (.tail _ (.head _)))))) _ (.head _)
    have hS1 : @Ne Nat (L + 1) lS := hofA _ (.tail _ (.tail _ (.tail _ (.tail _ (.head _))))) _ (.tail _ (.head _))
    have hS2 : @Ne Nat (L + 1 + 1) lS := hofA _ (.tail _ (.tail _ (.tail _ (.head _)))) _ (.tail _ (.head _))
    have hS3 : @Ne Nat (L + 1 + 1 + 1) lS := hofA _ (.tail _ (.tail _ (.head _))) _ (.tail _ (.head _))
    have hS4 : @Ne Nat (L + 1 + 1 + 1 + 1) lS := hofA _ (.tail _ (.head _)) _ (.tail _ (.head _))
    have hS30 : @Ne Nat 30 lS := hofA _ (.tail _ (.tail _ (.tail _ (.tail _ (.tail _ (.head _)))))) _ (.tail _ (.head _))
    clear hofA
    (try k_lt l9)
    (try k_sweep)
    (try dsimp only)
    (try k_fold))
  try k_fold
  k_steps
  k_with_none
  (rename News _ _ _ _ => N5); (replace N5 := newsTail N5)
  k_dflt (refine' CallOk.use (lots_ok (by assumption) ?mq ?pq) ?k1 ?k2 ?k3 N5 ?k5 ?kK ?kd ?ku ?_)
  case k1 => k_asm
  case k2 => k_asm
  case k3 => k_asm
  case k5 => k_asm
  case mq => exact .tail _ (.tail _ (.head _))
  case pq => exact hp.mono (by kcf_all)
  case kK => first | exact rfl | assumption
  case kd => ktr_room
  case ku => ktr_units
  rintro r9 n9 h9 tk9 F9 N9 ⟨lL, vl, nl, rfl, hofL, iL, rfl⟩
  have hLA : @Ne Nat lA lL := hofL _ (.head _)
  have hLS : @Ne Nat lS lL := hofL _ (.tail _ (.head _))
  have hLp : @Ne Nat lp lL := hofL _ (.tail _ (.tail _ (.head _)))
  have hL4 : @Ne Nat (L + 1 + 1 + 1 + 1) lL := hofL _ (.tail _ (.tail _ (.tail _ (.head _))))
  have hL3 : @Ne Nat (L + 1 + 1 + 1) lL := hofL _ (.tail _ (.tail _ (.tail _ (.tail _ (.head _)))))
  have hL2 : @Ne Nat (L + 1 + 1) lL := hofL _ (.tail _ (.tail _ (.tail _ (.tail _ (.tail _ (.head _))))))
  have hL1 : @Ne Nat (L + 1) lL := hofL _ (.tail _ (.tail _ (.tail _ (.tail _ (.tail _ (.tail _ (.head _)))))))
  have hL30 : @Ne Nat 30 lL := hofL _ (.tail _ (.tail _ (.tail _ (.tail _ (.tail _ (.tail _ (.tail _ (.head _))))))))
  clear hofL
  (try k_sweep)
  (try dsimp only)
  (try k_fold)
  k_steps
  have PL := plain ps hp.bnd
  (rename Fr _ _ _ _ => F5); (rename News _ _ _ _ => N5)
  (rename _ ∧ _ ∧ _ ∧ _ ∧ _ ∧ _ ∧ _ ∧ _ ∧ _ ∧ _ ∧ _ ∧ _ => lx); clear lx
  (rename _ ∧ _ ∧ _ ∧ _ ∧ _ ∧ _ ∧ _ ∧ _ ∧ _ ∧ _ ∧ AllLt _ _ => lx)
  obtain ⟨_, _, _, _, _, xa4, xa3, xa2, xa1, xa30, _⟩ := lx
  (rename _ ∧ _ ∧ _ ∧ _ ∧ _ ∧ _ ∧ _ ∧ _ ∧ _ ∧ AllLt _ _ => lx)
  obtain ⟨_, _, _, _, da4, da3, da2, da1, da30, _⟩ := lx
  k_dflt (refine' loop1_use hK (by assumption) F5 (by assumption) (by assumption) (by assumption) N5 (by assumption) (by assumption) (by assumption) (by assumption) h30 ⟨rfl, rfl, rfl, rfl⟩ iA iZ iL PL.g1 ?qO hd hu hE ?dn)
  case qO => exact (ownOff_cons5 (ownOff_cons5 (ownOff_cons5 (ownOff_cons5 (ownOff_cons5 (ownOff_cons5 hoff hp30 hp1 hp2 hp3 hp4) (Ne.symm hS30) (Ne.symm hS1) (Ne.symm hS2) (Ne.symm hS3) (Ne.symm hS4)) (Ne.symm hA30) (Ne.symm hA1) (Ne.symm hA2) (Ne.symm hA3) (Ne.symm hA4)) (Ne.symm hL30) (Ne.symm hL1) (Ne.symm hL2) (Ne.symm hL3) (Ne.symm hL4)) (@Ne.symm Nat _ _ (Nat.ne_of_lt da30)) (@Ne.symm Nat _ _ (Nat.ne_of_lt da1)) (@Ne.symm Nat _ _ (Nat.ne_of_lt da2)) (@Ne.symm Nat _ _ (Nat.ne_of_lt da3)) (@Ne.symm Nat _ _ (Nat.ne_of_lt da4))) (@Ne.symm Nat _ _ (Nat.ne_of_lt xa30)) (@Ne.symm Nat _ _ (Nat.ne_of_lt xa1)) (@Ne.symm Nat _ _ (Nat.ne_of_lt xa2)) (@Ne.symm Nat _ _ (Nat.ne_of_lt xa3)) (@Ne.symm Nat _ _ (Nat.ne_of_lt xa4)))
  case dn =>
  clear F5 N5
  rintro m₁ nx h tk hO ⟨τ, o3', o4', c3', c4', rfl, hd3, hd4, hT, hco, hk⟩ F₁ N₁
  replace F₁ := fr_norm F₁ hk.norm
  (try dsimp only)
  (try k_fold)
  k_steps
  k_dflt (refine' loop2_use hK (by assumption) F₁ (by assumption) (by assumption) (by assumption) N₁ (by assumption) hd3 hd4 h30 hT hco ⟨rfl, rfl, rfl, rfl⟩ ⟨by assumption, by assumption, by assumption⟩ iA iZ PL.g2 hO hd hu hE ?dn)
  clear F₁ N₁ hd3 hd4 hT hco hk
  rintro m₁ nx h tk ⟨τ, R2, xw, o3', o4', c3', c4', rfl, hd3, hd4, hT, hco, hk, hO2, hsub, d2, od2, u1, u2, u3, w4, u4, hwm, hdm, hde⟩ F₁ N₁
  replace F₁ := fr_norm F₁ hk.norm
  rw [PL.w1, PL.w2] at hwm
  have hw3 := PL.w3
  have hj0 := PL.j0
  have hj1 := PL.j12
  generalize (wSum (joinedP ps).ab 12).2.2 = ws at *
  have hoffT := off_tab h30 hco hO2
  have hwm' := List.mem_append.mpr (Or.inr (a := _ ∈ tabLed τ) hwm)
  (try dsimp only)
  (try k_fold)
  k_steps
  (rename Fr _ _ _ _ => F5); (rename News _ _ _ _ => N5)
  k_dflt (refine' slice_two F5 N5 (.tail _ (.tail _ (.tail _ (.tail _ hwm')))) ?_)
  clear F5 N5
  intro D5 h5 F5 N5 l5
  have hD5 : OwnOff (tabLed τ ++ R2) [D5] := fun r hr b hb => by rw [List.mem_singleton.mp hb]; exact Nat.ne_of_lt (l5 r (.tail _ (.tail _ (.tail _ (.tail _ hr)))))
  (try k_sweep)
  (try dsimp only)
  (try k_fold)
  k_steps
  (rename Fr _ _ _ _ => F5); (rename News _ _ _ _ => N5)
  have hmlp : (lp, listOf ys.toArray nk) ∈ R2 := hsub _ (.tail _ (.tail _ (.tail _ (.tail _ (.tail _ (.head _))))))
  have hmlA : (lA, listOf va.toArray na) ∈ R2 := hsub _ (.tail _ (.tail _ (.tail _ (.head _))))
  have hmlS : (lS, listOf vz.toArray nz) ∈ R2 := hsub _ (.tail _ (.tail _ (.tail _ (.tail _ (.head _)))))
  have htps : ∀ q ∈ tps, q ∈ R2 := fun q hq => hsub q (.tail _ (.tail _ (.tail _ (.tail _ (.tail _ (.tail _ hq))))))
  have hyl := hp.len
  have up : ∀ q ∈ R2, q ∈ tabLed τ ++ R2 := fun q hq => List.mem_append.mpr (.inr hq)
  k_dflt (refine' add_fresh F5 N5 (.tail _ (.tail _ (.tail _ (.tail _ (.tail _ (.tail _ (up _ hmlp))))))) (.tail _ (.tail _ (.tail _ (.tail _ (.tail _ (.tail _ (up _ hmlp))))))) ?_ (by rw [PySem.sizeLine_eq]; omega))
  clear F5 N5
  intro D6 h6 F6 N6 l6
  have hD6 : OwnOff (tabLed τ ++ R2) [D6] := fun r hr b hb => by rw [List.mem_singleton.mp hb]; exact Nat.ne_of_lt (l6 r (.tail _ (.tail _ (.tail _ (.tail _ (.tail _ (.tail _ hr)))))))
  (try k_sweep)
  (try dsimp only)
  (try k_fold)
  k_steps
  k_dflt (refine' CallOk.use (joined_ok hK (.head _) ?pTw) ?k1 ?k2 ?k3 N6 ?k5 ?kK ?kd ?ku ?_)
  case k1 => k_asm
  case k2 => k_asm
  case k3 => k_asm
  case k5 => k_asm
  case pTw => exact hp.twice.mono fun q hq => .tail _ (.tail _ (.tail _ (.tail _ (.tail _ (.tail _ (.tail _ (up _ (htps q hq))))))))
  case kK => first | exact rfl | assumption
  case kd => ktr_room
  case ku => ktr_units
  clear F6 N6
  rintro r9 n9 h9 tk9 F9 N9 ⟨y9, lB, lZ, vb, nb, vy, ny, t8, rfl, hBZ, hofB, l9', iB, iY, rfl⟩
  rw [PL.twice] at iB iY N9
  (try k_sweep)
  (try dsimp only)
  (try k_fold)
  (repeat' ((fail_if_success (with_reducible show wpAny _ _ (compareOp _ _ _) _ _ _)); first | (k_unfold; (try dsimp only)) | (k_end; wrow_close) | walk1 | (dsimp only; walk1) | (leave1; walk_say "STEP leave1"; try dsimp only)))
  (rename Fr _ _ _ _ => F6); (rename News _ _ _ _ => N6)
  obtain ⟨ps9, h30m⟩ := tab30 τ
  k_dflt (refine' eq_state N6 (.tail _ (.head _)) (.head _) (.tail _ (.tail _ (.head _))) (.tail _ (.tail _ (.tail _ (.head _)))) (.tail _ (.tail _ (.tail _ (.tail _ (.tail _ (.tail _ (.tail _ (.tail _ (.tail _ (.tail _ (.tail _ (up _ hmlA)))))))))))) (.tail _ (.tail _ (.tail _ (.tail _ (.tail _ (.tail _ (.tail _ (.tail _ (.tail _ (.tail _ (.tail _ (up _ hmlS)))))))))))) iB iY iA iZ ?ku (hret _ _ _ _ ps9 F6 N6 (.tail _ (.tail _ (.tail _ (.tail _ (.tail _ (.tail _ (.tail _ (.tail _ (.tail _ (.tail _ (.tail _ (List.mem_append.mpr (.inl h30m)))))))))))))))
  case ku => ke_room
end
end Mine
end
section
open PySem PySem.W PyProof.Rows PySem.Calls
set_option maxRecDepth 100000
set_option maxHeartbeats 0
set_option rowWalk.seconds 0
namespace Mine
section
variable {prog : Program} {w : World} {K : Frag} {p : Program} {loose : List Str} {mean : ExcName → Option Value} {mg mb : Str → Option Value}
local macro_rules | `(tactic| k_is) => `(tactic| with_reducible assumption)
local macro_rules | `(tactic| k_mem) => `(tactic| assumption)
local macro_rules | `(tactic| walk_at "newTuple") => `(tactic| (
  k_here
  k_dflt (refine' newTuple_fr ?k1 ?k2 ?_ ?z; (case k1 => k_asm); (case k2 => k_asm); (case z => size_fits))
  intro x' h' F' N' l1
  (try k_lt l1)
  (try k_sweep)))
local macro_rules | `(tactic| walk_at "M toComp") => `(tactic| (repeat' ((fail_if_success (with_reducible show LCg.CompSrc _ _ _ _ _ _ _ _ _ _ _ _ _ _)); first | (k_unfold; (try dsimp only)) | (k_end; wrow_close) | walk1 | (dsimp only; walk1) | (leave1; walk_say "STEP leave1"; try dsimp only))))
local macro_rules | `(tactic| walk_at "exec Assign cons ListComp") => `(tactic| (k_here; k_dflt (refine LCg.Assign_ListComp_U (F₀ := by k_asm) (by rfl) (by with_unfolding_all rfl) (by with_unfolding_all rfl) (by decide) (by rfl) (by decide) (by rfl) (by rfl) (by rfl) ?_)))
theorem law_ok (hK : KF K) {dp un : Nat} {gd : Option (List Code)} {a : Addr} {ccd : Value} {outer : List Env} {A₀ : Around} {base h₀ : Heap} {L : Addr} {m : Str → Option Value} {s : Shared} {Q : Flow → Shared → Prop} {E : Value → Shared → Prop}
    {la : Addr} {vs : List Value} {ns : List Int} {o1 o2 o3 o4 : Obj} {c1 c2 c3 c4 : Option Value}
    (B : Below A₀ base outer h₀) (F : Fr h₀ L s.heap m) (X : K.In h₀) (hm : m (Str.ofString "script") = some (.ref la))
    (N : News h₀ L s.heap [(L + 1 + 1 + 1 + 1, o4), (L + 1 + 1 + 1, o3), (L + 1 + 1, o2), (L + 1, o1), (30, tabObj #[])]) (T : Top p loose mean mg mb h₀) (hCode : CodeHd base 34 30)
    (hc1 : o1.data = .cell c1) (hc2 : o2.data = .cell c2) (hc3 : o3.data = .cell c3) (hc4 : o4.data = .cell c4) (h30 : @LT.lt Nat _ 30 L)
    (hl : h₀.IsList la vs.toArray) (hi : IntsAre vs ns) (hlen : ns.length ≤ 63) (hd : dp + 10 < recursionLimit) (hu : un + 80 < cLine)
    (hE : PassesOwn (model prog w) (ktrTop dp un gd (Str.ofString "law") (fScope sLaw) L a ccd (lawCl L) outer) (lawEnv L a ccd) E)
    (hret : ∀ h' tk' m' news' ps, Fr h₀ L h' m' → News h₀ L h' news' → (30, tabObj ps) ∈ news' → Q (.ret (.bool true)) { s with heap := h', toks := tk' }) :
    wpAny (model prog w) (ktrTop dp un gd (Str.ofString "law") (fScope sLaw) L a ccd (lawCl L) outer) (execs (fBody sLaw) (lawEnv L a ccd)) Q E s := by
  have hnJ := hK.nJoined
  have hkJ := hK.oJoined.keep
  have hnH := hK.nHead
  have hkH := hK.oHead.keep
  have hnT := hK.nLots
  have hkT := hK.oLots.keep
  have hnD := hK.nDigits
  have hkD := hK.oDigits.keep
  have hnS := hK.nStats
  have hkS := hK.oStats.keep
  have hnR := hK.nRange
  have hnL := hK.nLen
  have hnU := hK.nSum
  dsimp only [lawEnv, lawCl, sLaw, bd, PySem.Challenge.pw_gm0001_01, tlS, hdS, fArgs, fBody, fScope]
  replace F := fr_norm F (norm1 hm)
  walk_at "M toComp"
  rename_i D1 ws hh F1 N1 iW hC hL lD
  refine LCg.CompSrc.ledger (by rfl) F1 N1 (.head _) (by rw [List.size_toArray, iW.length, hC, PySem.sizeLine_eq]; omega) ?_
  intro g9
  refine comp_inv (JPairs ns D1 ws L o1 o2 o3 o4) ws.toArray.size (fun i ys nx hj => ?_) ?tn ?fn ws.toArray.size 0 [] _ (Nat.zero_add _) ⟨[], rfl, PairsAt.nil, fun q hq => by cases hq⟩
  · obtain ⟨tps, rfl, _⟩ := hj
    exact .inr ⟨_, .head _, rfl, _, rfl⟩
  case tn =>
    clear F1 N1
    rintro i v ys nx I oI C oC D m₂ h tk E' hin hv ⟨tps, rfl, hp, hoff⟩ hNs hx F₁ N₁ offI ⟨ne1, ne2, ne3⟩
    obtain ⟨k, t, rfl, hk⟩ := IntsAre.at iW i v (by simpa using hv)
    try k_fold
    k_steps
    (rename Fr _ _ _ _ => F6); (rename News _ _ _ _ => N6); (rename _ ∧ _ ∧ _ ∧ _ ∧ _ ∧ _ ∧ _ ∧ _ ∧ _ ∧ AllLt _ _ => l6)
    exact jpairs_end F6 N6 l6 hk hp hoff offI
  case fn =>
    clear F1 N1
    rintro ys nx ⟨tps, rfl, hp, hoff⟩ D h tk F N O
    have hO := Off1_mem O
    dsimp only
    k_dflt (refine' rest_ok (nk := ys.length) hK B F X rfl (newsSub N (List.forall_mem_cons.mpr ⟨(.head _), List.forall_mem_cons.mpr ⟨(.tail _ (.tail _ (.head _))), List.forall_mem_cons.mpr ⟨(.tail _ (.tail _ (.tail _ (.head _)))), List.forall_mem_cons.mpr ⟨(.tail _ (.tail _ (.tail _ (.tail _ (.head _))))), List.forall_mem_cons.mpr ⟨(.tail _ (.tail _ (.tail _ (.tail _ (.tail _ (.head _)))))), List.forall_mem_cons.mpr ⟨(.tail _ (.tail _ (.tail _ (.tail _ (.tail _ (.tail _ (.head _))))))), fun q hq => (.tail _ (.tail _ (.tail _ (.tail _ (.tail _ (.tail _ (.tail _ hq)))))))⟩⟩⟩⟩⟩⟩)) T hCode hc1 hc2 hc3 hc4 h30 hp ?_ ?_ (@Ne.symm Nat _ _ (hO _ (.tail _ (.tail _ (.tail _ (.tail _ (.head _))))))) (@Ne.symm Nat _ _ (hO _ (.tail _ (.tail _ (.tail _ (.head _)))))) (@Ne.symm Nat _ _ (hO _ (.tail _ (.tail _ (.head _))))) (@Ne.symm Nat _ _ (hO _ (.tail _ (.head _)))) (@Ne.symm Nat _ _ (hO _ (.tail _ (.tail _ (.tail _ (.tail _ (.tail _ (.head _)))))))) hd hu hE ?_)
    · simp only [List.length_map, List.length_take]; omega
    · exact fun q hq b hb => hoff q hq b (by
        simp only [List.mem_cons, List.not_mem_nil, or_false] at hb ⊢
        rcases hb with h | h | h | h | h
        · exact .inl h
        · exact .inr (.inl h)
        · exact .inr (.inr (.inl h))
        · exact .inr (.inr (.inr (.inl h)))
        · exact .inr (.inr (.inr (.inr (.inl h)))))
    · exact hret
end
end Mine
end
section
open PySem PySem.W PyProof.Rows
set_option maxRecDepth 100000
set_option maxHeartbeats 0
theorem PySem.Challenge.cw_gm0001_01_holds : PySem.Challenge.rw_gm0001_01.Holds := by
  w_on; o_law; k_head; (case hw => w_witness2)
  w_strict (k_go0; ((rename Fr _ _ _ _ => F9); (rename News _ _ _ _ => N9); (rename Below _ _ _ _ => B9); (rename Top _ _ _ _ _ _ => T9); (rename Frag.In _ _ => X9); (rename CodeHd _ _ _ => C9); (rename Heap.IsList (ghostOf _ _) _ _ => L9); (rename IntsAre _ _ => I9); (rename @LT.lt Nat _ 30 _ => l9); with_unfolding_all (refine' Mine.law_ok ?gk B9 F9 X9 ?gm N9 T9 C9 (by assumption) (by assumption) (by assumption) (by assumption) l9 L9 I9 ?gl ?gd ?gu ?gE ?gr); (case gk => exact (by constructor; (case oHead => exact ⟨⟨_, _, _, by with_unfolding_all rfl⟩, by kernel_rfl⟩); (case oJoined => exact ⟨⟨_, _, _, by with_unfolding_all rfl⟩, by kernel_rfl⟩); (case oLots => exact ⟨⟨_, _, _, by with_unfolding_all rfl⟩, by kernel_rfl⟩); (case oDigits => exact ⟨⟨_, _, _, by with_unfolding_all rfl⟩, by kernel_rfl⟩); (case oStats => exact ⟨⟨_, _, _, by with_unfolding_all rfl⟩, by kernel_rfl⟩); (case oCallers => exact ⟨⟨_, _, _, by with_unfolding_all rfl⟩, by kernel_rfl⟩); all_goals kernel_rfl)); (case gm => rfl); (case gl => omega); (case gd => decide +kernel); (case gu => decide +kernel); (case gE => passes_own); clear F9 N9; intro h9 tk9 m9 news9 ps9 F9 N9 hm9; replace N9 : News _ _ _ [(30, tabObj ps9)] := Mine.newsSub N9 (fun q hq => by rw [List.mem_singleton.mp hq]; exact hm9); clear hm9; k_steps))
end
