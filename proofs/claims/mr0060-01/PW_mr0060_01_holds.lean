import PyProof.Rows.All
import Wide.All
import OpenK.AllK
import Wide.FinOn
import PySem.Challenge.RW_mr0060_01
open PySem PySem.W PyProof.Rows
set_option Elab.async false
set_option maxRecDepth 100000
set_option maxHeartbeats 8000000
namespace Mine
open_top hd for PySem.Challenge.rw_mr0060_01

section
abbrev Led := List (Addr × Obj)
/-- all that stands in h outside the ledger stands in h' -/
def Keeps (h : Heap) (news : Led) (h' : Heap) : Prop := ∀ b o, h.get? b = some o → b ∉ news.map (·.1) → h'.get? b = some o
/-- a call of the text's def at f, from any frame of a def: what it hands back and what it makes of the ledger -/
def Does (w : World) (mean : ExcName → Option Value) (mg mb : Str → Option Value) (f : Addr) (args : List Value) (room : Nat) (news : Led) (Post : Value → Led → Prop) : Prop :=
  ∀ (dp un : Nat) (gd : Option (List Code)) (cn : Str) (cs : Scope) (a : Addr) (ccd : Value) (cl : List (Str × Addr)) (outer : List Env) (A₀ : Around) (base h₀ : Heap) (L : Addr) (m : Str → Option Value) (s : Shared) (Q E : Value → Shared → Prop),
    Below A₀ base outer h₀ → Fr h₀ L s.heap m → (hd.heap_39 w.params).In h₀ → News h₀ L s.heap news → Top hd.view_39 (looseW hd.view_39 []) mean mg mb h₀ → cs.kind = .function →
    dp + room < recursionLimit → un + 8 * room < cLine →
    (∀ r news' h' tk', Post r news' → Fr h₀ L h' m → News h₀ L h' news' → Keeps s.heap news h' → Q r { s with heap := h', toks := tk' }) →
    wpAny (model PySem.Challenge.rw_mr0060_01.row.prog w) (ktrTop dp un gd cn cs L a ccd cl outer) (call (.ref f) args) Q E s

section
variable {prog : Program} {w : World} {A A₀ : Around} {s : Shared} {K : Frag} {L : Addr} {h₀ base : Heap} {m mg mb : Str → Option Value} {news : Led} {p : Program} {loose : List Str} {mean : ExcName → Option Value}
/-- entering a def, the ground told -/
theorem code_keep {env : Env} {outer : List Env} {R : Result → Shared → Prop} {name qual : Str} {params : Arguments} {body : List Stmt} {scope : Scope} {dV kV doc pm cdv ct oc : Value} {an od : Option Addr} {osl : Array (Option Value)} {f : Addr} {args : Args} {binds : List (Str × Value)}
    (B : Below A₀ base outer h₀) (F : Fr h₀ L s.heap m) (X₀ : K.In h₀) (N : News h₀ L s.heap news) (T : Top p loose mean mg mb h₀) (hA : A.frames = some (env :: outer)) (hf : env.frame = some L) (hke : env.scope.kind = .function)
    (ho : K.lookup f = some ⟨oc, od, .func (fnOf name qual params body scope dV kV doc pm an cdv ct), osl⟩) (hcd : codeIn K cdv qual = true) (hroom : A.depth < recursionLimit)
    (hbind : BindsTo s (fnOf name qual params body scope dV kV doc pm an cdv ct) args binds) (hloc : ∀ y ∈ binds, scope.names.lookup y.1 = some .local)
    (h : ∀ g L' h₁, Keeps s.heap news g → (∀ p ∈ news, p.1 < L') → Fr h₀ L g m → Fr g L' h₁ (fun y => binds.reverse.lookup y) → News g L' h₁ news → Below A base (env :: outer) g → K.In g → Top p loose mean mg mb g →
      wpAny (model prog w) (A.deeper (envOf qual scope L' f cdv)) (execs body (envOf qual scope L' f cdv))
        (fun fl s' => LeaveK h₀ L m g R (match fl with | .ret v => v | _ => .none) s')
        (fun e s' => wpAny (model prog w) (A.deeper (envOf qual scope L' f cdv)) (leaving (envOf qual scope L' f cdv) e) (fun _ s'' => R (.error e) s'') (fun e' s'' => R (.error e') s'') s')
        { s with heap := h₁, toks := s.toks + binds.length })
    (hco : scope.isCoroutine = false) (hgen : scope.isGenerator = false) (hk : scope.kind = .function)
    (hcell : ∀ x ∈ scope.names, x.2 ≠ .cell) : codeAny (model prog w) A (.call (.ref f) args) R s := by
  obtain ⟨FG, BG, st, lv⟩ := groundX (R := R) B F N hA hf hke
  have X := X₀.keeps F.keep
  refine PySem.codeAny_call_def (fd := fnOf name qual params body scope dV kV doc pm an cdv ct) (body := body) (binds := binds) hroom (X _ _ ho) rfl (T.nolimit.keeps F.keep) (codeRec_of X hcd) rfl hbind hcell hloc (fun h₁ hns hk₁ => ?_) hco hgen hk
  have F₁ : Fr (hideAll s.heap (news.map (·.1))) s.heap.objs.size h₁ (fun y => binds.reverse.lookup y) := ⟨hns, fun b o e => hk₁ b o (of_hideAll _ e), Nat.le_of_eq (hideAll_size _ _)⟩
  have N₁ : News (hideAll s.heap (news.map (·.1))) s.heap.objs.size h₁ news := fun p hp => ⟨hk₁ _ _ (N p hp).1, Nat.ne_of_lt (Heap.lt_size (N p hp).1), hideAll_none _ (List.mem_map_of_mem hp)⟩
  exact wpAny_mono (h _ _ h₁ (fun b o e n => hideAll_get _ e n) (fun p hp => Heap.lt_size (N p hp).1) FG F₁ N₁ BG (X₀.keeps st) (T.keeps st)) (fun fl s' hl => lv _ _ hl) fun _ _ y => y
end

section
variable {w : World} {mean : ExcName → Option Value} {mg mb : Str → Option Value} {f : Addr} {args : List Value} {room : Nat} {news₁ news : Led} {Post : Value → Led → Prop}
variable {dp un : Nat} {gd : Option (List Code)} {cn : Str} {cs : Scope} {a : Addr} {ccd : Value} {cl : List (Str × Addr)} {outer : List Env} {A₀ : Around} {base h₀ : Heap} {L : Addr} {m : Str → Option Value} {s : Shared} {Q E : Value → Shared → Prop}
/-- a call that only reads the ledger -/
theorem Does.read {R : Value → Prop} (D : Does w mean mg mb f args room news₁ (fun r nw => nw = news₁ ∧ R r))
    (B : Below A₀ base outer h₀) (F : Fr h₀ L s.heap m) (X : (hd.heap_39 w.params).In h₀) (N : News h₀ L s.heap news) (T : Top hd.view_39 (looseW hd.view_39 []) mean mg mb h₀) (hk : cs.kind = .function)
    (hd : dp + room < recursionLimit) (hu : un + 8 * room < cLine) (hs : ∀ p ∈ news₁, p ∈ news)
    (ret : ∀ r h' tk', R r → Fr h₀ L h' m → News h₀ L h' news → Q r { s with heap := h', toks := tk' }) :
    wpAny (model PySem.Challenge.rw_mr0060_01.row.prog w) (ktrTop dp un gd cn cs L a ccd cl outer) (call (.ref f) args) Q E s := by
  refine D _ _ _ _ _ _ _ _ _ _ _ _ _ _ _ _ _ B F X (fun p hp => N p (hs p hp)) T hk hd hu ?_
  rintro r nw h' tk' ⟨rfl, hr⟩ F' N' K'
  refine ret r h' tk' hr F' fun p hp => ?_
  obtain ⟨g1, g2, g3⟩ := N p hp
  refine ⟨?_, g2, g3⟩
  by_cases hm : p.1 ∈ nw.map (·.1)
  · obtain ⟨q, hq, e⟩ := List.mem_map.mp hm
    have h1 := (N q (hs q hq)).1
    have h2 := (N' q hq).1
    rw [e] at h1 h2
    rw [h1] at g1
    rw [h2]; exact g1
  · exact K' _ _ g1 hm
/-- a call that changes one object of the ledger -/
theorem Does.turn {R : Value → Obj → Prop} {l : Addr} {o : Obj} {g : Obj → Led} (D : Does w mean mg mb f args room [(l, o)] (fun r nw => ∃ o', nw = [(l, o')] ∧ R r o'))
    (B : Below A₀ base outer h₀) (F : Fr h₀ L s.heap m) (X : (hd.heap_39 w.params).In h₀) (N : News h₀ L s.heap news) (T : Top hd.view_39 (looseW hd.view_39 []) mean mg mb h₀) (hk : cs.kind = .function)
    (hd : dp + room < recursionLimit) (hu : un + 8 * room < cLine) (U : UpdF l o news g)
    (ret : ∀ r o' h' tk', R r o' → Fr h₀ L h' m → News h₀ L h' (g o') → Q r { s with heap := h', toks := tk' }) :
    wpAny (model PySem.Challenge.rw_mr0060_01.row.prog w) (ktrTop dp un gd cn cs L a ccd cl outer) (call (.ref f) args) Q E s := by
  obtain ⟨pre, post, rfl, hg, x1, x2⟩ := U.split
  refine D _ _ _ _ _ _ _ _ _ _ _ _ _ _ _ _ _ B F X (fun p hp => N p (by rw [List.mem_singleton.mp hp]; simp)) T hk hd hu ?_
  rintro r nw h' tk' ⟨o', rfl, hr⟩ F' N' K'
  refine ret r o' h' tk' hr F' ?_
  rw [hg]
  intro p hp
  have keep : ∀ q ∈ pre ++ post, q.1 ≠ l → h'.get? q.1 = some q.2 ∧ q.1 ≠ L ∧ h₀.get? q.1 = none := fun q hq hn => by
    have hq' : q ∈ pre ++ (l, o) :: post := by
      rcases List.mem_append.mp hq with h | h
      · exact List.mem_append_left _ h
      · exact List.mem_append_right _ (.tail _ h)
    obtain ⟨g1, g2, g3⟩ := N q hq'
    exact ⟨K' _ _ g1 (by simpa using hn), g2, g3⟩
  rcases List.mem_append.mp hp with h | h
  · exact keep p (List.mem_append_left _ h) (x1 p h)
  · rcases List.mem_cons.mp h with rfl | h
    · exact N' _ (.head _)
    · exact keep p (List.mem_append_right _ h) (x2 p h)
end

/-- the heap's order, at most five items -/
def IsHp : List Int → Prop
  | [] => True
  | [_] => True
  | [a, b] => a ≤ b
  | [a, b, c] => a ≤ b ∧ a ≤ c
  | [a, b, c, d] => a ≤ b ∧ a ≤ c ∧ b ≤ d
  | [a, b, c, d, e] => a ≤ b ∧ a ≤ c ∧ b ≤ d ∧ b ≤ e
  | _ => False
theorem perm_of_count {l₁ l₂ : List Int} (h : ∀ a, l₁.count a = l₂.count a) : l₁.Perm l₂ := List.perm_iff_count.mpr h
end

section
/-- a walker from r over the chosen ones, in their order -/
def reachF : List (Int × Int) → Int → Option Int
  | [], r => some r
  | (p, h) :: q, r => if p > r then none else reachF q (r + h)
def RetOf : Option Int → Value → Prop
  | none, v => v = .none
  | some z, v => ∃ t, v = .int z t
abbrev tup (p h : Int) (t u : Tok) (n : Nat) : Obj := { cls := .type "tuple", data := .seq #[.int p t, .int h u] n }
end

section
abbrev PP := Int × Int
/-- xs lies in T, in any order -/
def Sub (xs T : List PP) : Prop := ∃ rest, T.Perm (xs ++ rest)
/-- L's k-th is the farthest that k of T take a walker from r; no choice of L.length or more of T goes -/
def Best (T : List PP) (r : Int) (L : List Int) : Prop :=
  (∀ (k : Nat) z, L[k]? = some z → (∃ xs, Sub xs T ∧ xs.length = k ∧ reachF xs r = some z) ∧ ∀ xs z', Sub xs T → xs.length = k → reachF xs r = some z' → z' ≤ z) ∧
  ∀ xs z', Sub xs T → reachF xs r = some z' → xs.length < L.length

theorem reachF_cons {q : PP} {xs : List PP} {r z : Int} (h : reachF (q :: xs) r = some z) : q.1 ≤ r ∧ reachF xs (r + q.2) = some z := by
  obtain ⟨p, g⟩ := q
  unfold reachF at h
  split at h
  · cases h
  · exact ⟨by omega, h⟩
theorem reachF_of {q : PP} {xs : List PP} {r z : Int} (h1 : q.1 ≤ r) (h2 : reachF xs (r + q.2) = some z) : reachF (q :: xs) r = some z := by
  obtain ⟨p, g⟩ := q
  unfold reachF
  rw [if_neg (by have : p ≤ r := h1; omega)]
  exact h2
theorem reachF_mono : ∀ {xs : List PP} {r z d : Int}, 0 ≤ d → reachF xs r = some z → reachF xs (r + d) = some (z + d)
  | [], r, z, d, _, h => by
    have : r = z := by simpa [reachF] using h
    subst this
    simp [reachF]
  | q :: xs, r, z, d, hd, h => by
    obtain ⟨h1, h2⟩ := reachF_cons h
    refine reachF_of (by omega) ?_
    have := reachF_mono hd h2
    rw [show r + d + q.2 = r + q.2 + d by omega]
    exact this
theorem reachF_move : ∀ {a : List PP} {u : PP} {b : List PP} {r z : Int}, 0 ≤ u.2 → reachF (a ++ u :: b) r = some z → reachF (a ++ b) (r + u.2) = some z
  | [], u, b, r, z, _, h => (reachF_cons h).2
  | q :: a, u, b, r, z, hu, h => by
    obtain ⟨h1, h2⟩ := reachF_cons (q := q) (xs := a ++ u :: b) h
    refine reachF_of (q := q) (xs := a ++ b) (by omega) ?_
    rw [show r + u.2 + q.2 = r + q.2 + u.2 by omega]
    exact reachF_move hu h2
theorem Sub.mem {xs T : List PP} (h : Sub xs T) {q : PP} (hq : q ∈ xs) : q ∈ T := by
  obtain ⟨rest, hp⟩ := h
  exact hp.mem_iff.mpr (List.mem_append_left _ hq)
theorem Sub.perm {xs T T' : List PP} (h : Sub xs T) (p : T'.Perm T) : Sub xs T' := let ⟨rest, hp⟩ := h; ⟨rest, p.trans hp⟩
theorem Best.perm {T T' : List PP} {r : Int} {L : List Int} (h : Best T r L) (p : T'.Perm T) : Best T' r L := by
  refine ⟨fun k z hk => ?_, fun xs z' hs hr => h.2 xs z' (hs.perm p.symm) hr⟩
  obtain ⟨⟨xs, a, b, c⟩, h2⟩ := h.1 k z hk
  exact ⟨⟨xs, a.perm p, b, c⟩, fun xs z' hs => h2 xs z' (hs.perm p.symm)⟩
/-- the exchange: whatever goes from r goes with u first, and no less far -/
theorem exchange {T T' xs : List PP} {u : PP} {r z : Int} (hT : T.Perm (u :: T')) (hu0 : 0 ≤ u.2) (hbest : ∀ q ∈ T, q.1 ≤ r → q.2 ≤ u.2)
    (hs : Sub xs T) (hne : xs ≠ []) (h : reachF xs r = some z) : ∃ ys z', Sub ys T' ∧ ys.length + 1 = xs.length ∧ reachF ys (r + u.2) = some z' ∧ z ≤ z' := by
  obtain ⟨rest, hp⟩ := hs
  have hp' : (u :: T').Perm (xs ++ rest) := hT.symm.trans hp
  by_cases hm : u ∈ xs
  · obtain ⟨a, b, rfl⟩ := List.append_of_mem hm
    refine ⟨a ++ b, z, ⟨rest, ?_⟩, by simp only [List.length_append, List.length_cons]; omega, reachF_move hu0 h, Int.le_refl _⟩
    have h1 : (a ++ u :: b ++ rest).Perm (u :: (a ++ b ++ rest)) := by
      have := (List.perm_middle (a := u) (l₁ := a) (l₂ := b)).append_right rest
      simpa using this
    exact (hp'.trans h1).cons_inv
  · match xs, hne with
    | x :: ys, _ =>
      obtain ⟨h1, h2⟩ := reachF_cons h
      have hx : x ∈ T := hp.mem_iff.mpr (by simp)
      have hle := hbest x hx h1
      have hur : u ∈ rest := by
        have : u ∈ x :: ys ++ rest := hp'.mem_iff.mp (by simp)
        rcases List.mem_append.mp this with h | h
        · exact absurd h hm
        · exact h
      obtain ⟨c, d, rfl⟩ := List.append_of_mem hur
      refine ⟨ys, z + (u.2 - x.2), ⟨x :: (c ++ d), ?_⟩, rfl, ?_, by omega⟩
      · have e1 : (x :: ys ++ (c ++ u :: d)).Perm (u :: (x :: ys ++ (c ++ d))) := by
          have := List.perm_middle (a := u) (l₁ := x :: ys ++ c) (l₂ := d)
          simpa using this
        have e2 := (hp'.trans e1).cons_inv
        refine e2.trans ?_
        have := (List.perm_middle (a := x) (l₁ := ys) (l₂ := c ++ d)).symm
        simpa using this
      · have := reachF_mono (d := u.2 - x.2) (by omega) h2
        rw [show r + x.2 + (u.2 - x.2) = r + u.2 by omega] at this
        exact this
/-- the greedy step -/
theorem Best.step {T T' : List PP} {u : PP} {r : Int} {L : List Int} (hT : T.Perm (u :: T')) (hu : u.1 ≤ r) (hu0 : 0 ≤ u.2) (hbest : ∀ q ∈ T, q.1 ≤ r → q.2 ≤ u.2) (h : Best T' (r + u.2) L) : Best T r (r :: L) := by
  refine ⟨fun k z hk => ?_, fun xs z hs hr => ?_⟩
  · match k with
    | 0 =>
      have e : r = z := by simpa using hk
      subst e
      refine ⟨⟨[], ⟨T, by simp⟩, rfl, rfl⟩, fun xs z' _ hl hr => ?_⟩
      have : xs = [] := List.length_eq_zero_iff.mp hl
      subst this
      have : r = z' := by simpa [reachF] using hr
      omega
    | k + 1 =>
      have hk' : L[k]? = some z := by simpa using hk
      obtain ⟨⟨xs, ⟨rest, hp⟩, hl, hr⟩, h2⟩ := h.1 k z hk'
      refine ⟨⟨u :: xs, ⟨rest, hT.trans (by simpa using hp.cons u)⟩, by simp [hl], reachF_of hu hr⟩, fun ys z' hs hl' hr' => ?_⟩
      obtain ⟨zs, z'', s1, s2, s3, s4⟩ := exchange hT hu0 hbest hs (by intro e; rw [e] at hl'; simp at hl') hr'
      have := h2 zs z'' s1 (by omega) s3
      omega
  · by_cases hne : xs = []
    · subst hne; simp
    · obtain ⟨ys, z', s1, s2, s3, _⟩ := exchange hT hu0 hbest hs hne hr
      have := h.2 ys z' s1 s3
      simp only [List.length_cons]; omega
/-- nothing in reach: the walk ends -/
theorem Best.stop {T : List PP} {r : Int} (h : ∀ q ∈ T, r < q.1) : Best T r [r] := by
  have none : ∀ xs z, Sub xs T → reachF xs r = some z → xs = [] ∧ z = r := fun xs z hs hr => by
    match xs with
    | [] => exact ⟨rfl, by simpa [reachF] using hr.symm⟩
    | x :: ys =>
      have := (reachF_cons hr).1
      have := h x (hs.mem (by simp))
      omega
  refine ⟨fun k z hk => ?_, fun xs z hs hr => by rw [(none xs z hs hr).1]; simp⟩
  match k with
  | 0 =>
    have e : r = z := by simpa using hk
    subst e
    exact ⟨⟨[], ⟨T, by simp⟩, rfl, rfl⟩, fun xs z' hs _ hr => by rw [(none xs z' hs hr).2]; exact Int.le_refl _⟩
  | k + 1 => simp at hk
theorem Best.unique {T : List PP} {r : Int} {L₁ L₂ : List Int} (h₁ : Best T r L₁) (h₂ : Best T r L₂) : L₁ = L₂ := by
  have le : ∀ {A B : List Int}, Best T r A → Best T r B → A.length ≤ B.length := fun {A B} hA hB => by
    apply Nat.le_of_not_lt
    intro hlt
    obtain ⟨⟨xs, s1, s2, s3⟩, _⟩ := hA.1 B.length A[B.length] (by simp [hlt])
    have := hB.2 xs _ s1 s3
    omega
  have hl := Nat.le_antisymm (le h₁ h₂) (le h₂ h₁)
  refine List.ext_getElem hl fun k k1 k2 => ?_
  obtain ⟨⟨xs, s1, s2, s3⟩, up₁⟩ := h₁.1 k L₁[k] (by simp [k1])
  obtain ⟨⟨ys, q1, q2, q3⟩, up₂⟩ := h₂.1 k L₂[k] (by simp [k2])
  have a := up₁ ys _ q1 q2 q3
  have b := up₂ xs _ s1 s2 s3
  omega
end

section
/-- between two steps of the walker's loop: i stops told (pre, then reach), k stations passed, xs in the heap -/
def GInv (sts : List PP) (start : Int) (i k : Nat) (reach : Int) (pre xs : List Int) : Prop :=
  IsHp xs ∧ k ≤ 5 ∧ pre.length = i ∧ ∃ U : List PP, xs.Perm (U.map fun q => -q.2) ∧ (∀ q ∈ U, q.1 ≤ reach ∧ 0 ≤ q.2) ∧ U.length + i = k ∧ ∀ L, Best (U ++ sts.drop k) reach L → Best sts start (pre ++ L)
section
variable {sts : List PP} {start reach : Int} {i k : Nat} {pre xs ys : List Int}
theorem GInv.first : GInv sts start 0 0 start [] [] := ⟨trivial, by omega, rfl, [], by simp, by simp, rfl, fun L h => by simpa using h⟩
theorem GInv.len (g : GInv sts start i k reach pre xs) : xs.length + i = k ∧ k ≤ 5 := by
  obtain ⟨_, h5, _, U, hp, _, hl, _⟩ := g
  have := hp.length_eq
  rw [List.length_map] at this
  omega
theorem GInv.push {p h : Int} (g : GInv sts start i k reach pre xs) (hk : k < 5) (hq : sts[k]? = some (p, h)) (hp : p ≤ reach) (hnn : ∀ q ∈ sts, 0 ≤ q.2) (hH : IsHp ys) (hy : ys.Perm (-h :: xs)) : GInv sts start i (k + 1) reach pre ys := by
  have h0 : 0 ≤ h := hnn _ (List.mem_of_getElem? hq)
  obtain ⟨_, _, h1, U, h2, h3, h4, h5⟩ := g
  refine ⟨hH, by omega, h1, (p, h) :: U, ?_, ?_, by simp only [List.length_cons]; omega, fun L hL => h5 L (hL.perm ?_)⟩
  · exact hy.trans (by simpa using h2.cons (-h))
  · intro q hq
    rcases List.mem_cons.mp hq with rfl | hq
    · exact ⟨hp, h0⟩
    · exact h3 q hq
  · have hlt : k < sts.length := by
      have := List.getElem?_eq_some_iff.mp hq
      exact this.1
    have e : sts.drop k = (p, h) :: sts.drop (k + 1) := by
      rw [List.drop_eq_getElem_cons hlt]
      have := (List.getElem?_eq_some_iff.mp hq).2
      rw [this]
    rw [e]
    exact List.perm_middle
theorem GInv.stop (g : GInv sts start i k reach pre []) (hx : ∀ q ∈ sts.drop k, reach < q.1) : Best sts start (pre ++ [reach]) := by
  obtain ⟨_, _, _, U, h2, _, _, h5⟩ := g
  have : U = [] := by
    have := h2.length_eq
    rw [List.length_map] at this
    exact List.length_eq_zero_iff.mp this.symm
  subst this
  exact h5 _ (Best.stop (by simpa using hx))
theorem GInv.pop {z : Int} (g : GInv sts start i k reach pre xs) (hx : ∀ q ∈ sts.drop k, reach < q.1) (hH : IsHp ys) (hp : (z :: ys).Perm xs) (hz : ∀ y ∈ ys, z ≤ y) : GInv sts start (i + 1) k (reach - z) (pre ++ [reach]) ys := by
  obtain ⟨_, hk5, h1, U, h2, h3, h4, h5⟩ := g
  have hzU : z ∈ U.map fun q => -q.2 := (hp.trans h2).mem_iff.mp (by simp)
  obtain ⟨u, hu, he⟩ := List.mem_map.mp hzU
  obtain ⟨a, b, rfl⟩ := List.append_of_mem hu
  have hz' : z = -u.2 := he.symm
  have pm : (a ++ u :: b).Perm (u :: (a ++ b)) := List.perm_middle
  have hy : ys.Perm ((a ++ b).map fun q => -q.2) := by
    have e1 : (z :: ys).Perm (((u :: (a ++ b)).map fun q => -q.2)) := (hp.trans h2).trans (pm.map _)
    rw [List.map_cons, ← hz'] at e1
    exact e1.cons_inv
  have hall : ∀ q ∈ a ++ u :: b, z ≤ -q.2 := fun q hq => by
    have : -q.2 ∈ z :: ys := (hp.trans h2).mem_iff.mpr (List.mem_map.mpr ⟨q, hq, rfl⟩)
    rcases List.mem_cons.mp this with e | h
    · omega
    · exact hz _ h
  have hsub : ∀ q ∈ a ++ b, q ∈ a ++ u :: b := fun q hq => by
    rcases List.mem_append.mp hq with h | h
    · exact List.mem_append_left _ h
    · exact List.mem_append_right _ (.tail _ h)
  have u3 := h3 u hu
  have hlen := pm.length_eq
  simp only [List.length_cons] at hlen
  refine ⟨hH, hk5, by simp [h1], a ++ b, hy, fun q hq => ?_, by omega, fun L hL => ?_⟩
  · have := h3 q (hsub q hq)
    exact ⟨by omega, this.2⟩
  · have e : reach - z = reach + u.2 := by omega
    rw [e] at hL
    have st : Best ((a ++ u :: b) ++ sts.drop k) reach (reach :: L) := by
      refine Best.step (u := u) (T' := (a ++ b) ++ sts.drop k) ?_ u3.1 u3.2 (fun q hq hr => ?_) hL
      · exact pm.append_right _
      · rcases List.mem_append.mp hq with h | h
        · have := hall q h; omega
        · have := hx q h; omega
    have := h5 _ st
    simpa using this
theorem GInv.never (g : GInv sts start 6 k reach pre xs) : False := by
  have := g.len; omega
theorem exit_of {q : PP} (hs : sts.Pairwise fun a b => a.1 ≤ b.1) (hq : sts[k]? = some q) (hr : reach < q.1) : ∀ x ∈ sts.drop k, reach < x.1 := by
  have hlt : k < sts.length := (List.getElem?_eq_some_iff.mp hq).1
  have e : sts.drop k = q :: sts.drop (k + 1) := by
    rw [List.drop_eq_getElem_cons hlt, (List.getElem?_eq_some_iff.mp hq).2]
  have hd : (sts.drop k).Pairwise fun a b => a.1 ≤ b.1 := hs.sublist (List.drop_sublist _ _)
  rw [e] at hd ⊢
  intro x hx
  rcases List.mem_cons.mp hx with rfl | hx
  · exact hr
  · have := (List.pairwise_cons.mp hd).1 x hx
    omega
end
end

section
theorem kst_skip {rest : Str → Option Value} {z : Str} : ∀ {ps : List (Str × Value)}, (∀ p ∈ ps, z ≠ p.1) → kstB rest ps z = rest z
  | [], _ => rfl
  | p :: r, h => by
    show (if z = p.1 then some p.2 else kstB rest r z) = rest z
    rw [if_neg (h p (.head _))]
    exact kst_skip fun q hq => h q (.tail _ hq)
section
variable {σ : Type} {prog : Program} {w : World} {A : Around} {E : Value → Shared → Prop} {s : Shared} {env : Env} {h₀ : Heap} {x : Str} {body : List Stmt} {Q : Flow → Shared → Prop}
/-- a turn's end: the invariant at some new state -/
def RtEnd (h₀ : Heap) (L : Addr) (s₁ : Shared) (I : Addr) (it : Obj) (x : Str) (Led : σ → Led) (ps : σ → List (Str × Value)) (stored : List Str) (m₀ : Str → Option Value) (Inv : σ → Prop) (s₂ : Shared) : Prop :=
  ∃ c h' tk m' news', s₂ = { s₁ with heap := h', toks := tk } ∧ Fr h₀ L h' m' ∧ News h₀ L h' news' ∧ (∀ p ∈ (I, it) :: Led c, p ∈ news') ∧ (∀ p ∈ ps c, m' p.1 = some p.2) ∧ (∀ z, z ≠ x → (∀ p ∈ ps c, z ≠ p.1) → stored.contains z = false → m' z = m₀ z) ∧ Inv c
def RtPost (h₀ : Heap) (L : Addr) (s₁ : Shared) (I : Addr) (it : Obj) (x : Str) (Led : σ → Led) (ps : σ → List (Str × Value)) (stored : List Str) (m₀ : Str → Option Value) (Inv : σ → Prop) (Q : Flow → Shared → Prop) (f : Flow) (s₂ : Shared) : Prop :=
  match f with
  | .ret v => Q (.ret v) s₂
  | .brk => Q .next s₂
  | _ => RtEnd h₀ L s₁ I it x Led ps stored m₀ Inv s₂
theorem RtEnd.intro {L : Addr} {s₁ : Shared} {I : Addr} {it : Obj} {Led : σ → Led} {ps : σ → List (Str × Value)} {stored : List Str} {m₀ m' : Str → Option Value} {Inv : σ → Prop} {h' : Heap} {tk : Nat} {news' : Mine.Led} (c : σ)
    (F : Fr h₀ L h' m') (N : News h₀ L h' news') (hn : ∀ p ∈ (I, it) :: Led c, p ∈ news') (hk : ∀ p ∈ ps c, m' p.1 = some p.2) (hr : ∀ z, z ≠ x → (∀ p ∈ ps c, z ≠ p.1) → stored.contains z = false → m' z = m₀ z) (hi : Inv c) :
    RtEnd h₀ L s₁ I it x Led ps stored m₀ Inv { s₁ with heap := h', toks := tk } := ⟨c, h', tk, m', news', rfl, F, N, hn, hk, hr, hi⟩
/-- a for over a range, by an invariant over its whole state, the ledger closed -/
theorem range_turns {r : Addr} {a₀ b₀ : Int} {t₀ u₀ v₀ : Tok} {n : Nat} {m₀ : Str → Option Value} (Led : σ → Led) (ps : σ → List (Str × Value)) (stored : List Str) (Inv : Nat → σ → Prop) (c₀ : σ)
    (hh : A.handled = none) (hr : IsRange s.heap r a₀ b₀ 1 t₀ u₀ v₀) (hsmall : Builtin.Range.small a₀ b₀ 1 = true) (hn : Builtin.Range.rangeSize a₀ b₀ 1 = (n : Int)) (F : Fr h₀ env.locals s.heap m₀) (N : News h₀ env.locals s.heap (Led c₀))
    (hadr : ∀ c, (Led c).map (·.1) = (Led c₀).map (·.1)) (hk : ∀ p ∈ ps c₀, m₀ p.1 = some p.2) (h0 : Inv 0 c₀)
    (turn : ∀ (I : Addr) (i : Nat) (c : σ) (u : Str → Option Value) t h tk, i < n → Inv i c → (∀ p ∈ Led c, p.1 < I) →
      Fr h₀ env.locals h (fun y => if y = x then some (.int (a₀ + (i : Int)) t) else kstB (fun z => if stored.contains z then u z else m₀ z) (ps c) y) →
      News h₀ env.locals h ((I, itR (a₀ + ((i + 1 : Nat) : Int)) ((n : Int) - ((i + 1 : Nat) : Int))) :: Led c) →
      wpAny (model prog w) A (execs body env) (RtPost h₀ env.locals { s with heap := h, toks := tk } I (itR (a₀ + ((i + 1 : Nat) : Int)) ((n : Int) - ((i + 1 : Nat) : Int))) x Led ps stored m₀ (Inv (i + 1)) Q) E { s with heap := h, toks := tk })
    (done : ∀ (c : σ) (u : Str → Option Value) h tk, Inv n c → Fr h₀ env.locals h (fun y => if y = x then u y else kstB (fun z => if stored.contains z then u z else m₀ z) (ps c) y) → News h₀ env.locals h (Led c) → Q .next { s with heap := h, toks := tk }) :
    wpAny (model prog w) A (pyIter (.ref r)) (fun it s₂ => LoopAtV prog w A h₀ env x body Q E it s₂) E s := by
  refine iter_rangeUnr hh hr hsmall hn F N fun I hI => ?_
  have low : ∀ c, ∀ p ∈ Led c, p.1 < I := fun c p hp => by
    have h1 : p.1 ∈ (Led c).map (·.1) := List.mem_map_of_mem hp
    rw [hadr c] at h1
    obtain ⟨q, hq, e⟩ := List.mem_map.mp h1
    rw [← e]; exact hI q hq
  have go : ∀ k i m c, k + i = n → Inv i c → (∀ p ∈ ps c, m p.1 = some p.2) → (∀ z, z ≠ x → (∀ p ∈ ps c, z ≠ p.1) → stored.contains z = false → m z = m₀ z) → RangeRest prog w A E h₀ env x body Q s I a₀ n k i m (Led c) := by
    intro k
    induction k with
    | zero =>
      intro i m c hki hi h1 h2
      refine RangeRest.zero fun h tk F' N' => done c m h tk ?_ (kst_frOut h1 h2 F') N'
      rw [Nat.zero_add] at hki
      rw [← hki]; exact hi
    | succ k ih =>
      intro i m c hki hi h1 h2
      refine RangeRest.succ fun t h tk F' N' => ?_
      refine wpAny_mono (turn I i c m t h tk (by omega) hi (low c) (kst_fr h1 h2 F') N') (fun f s₂ p => ?_) fun _ _ e => e
      have fin : RtEnd h₀ env.locals { s with heap := h, toks := tk } I (itR (a₀ + ((i + 1 : Nat) : Int)) ((n : Int) - ((i + 1 : Nat) : Int))) x Led ps stored m₀ (Inv (i + 1)) s₂ →
          UnrEnd h₀ env.locals { s with heap := h, toks := tk } I (itR (a₀ + ((i + 1 : Nat) : Int)) ((n : Int) - ((i + 1 : Nat) : Int))) (RangeRest prog w A E h₀ env x body Q s I a₀ n k (i + 1)) s₂ := by
        rintro ⟨c', h', tk', m', news', e, F'', N'', hs, hk', hr', hi'⟩
        exact ⟨h', tk', m', Led c', e, F'', fun p hp => N'' p (hs p hp), fun p hp => Nat.ne_of_lt (low c' p hp), ih (i + 1) m' c' (by omega) hi' hk' hr'⟩
      cases f with
      | ret v => exact p
      | brk => exact p
      | next => exact fin p
      | cont => exact fin p
  exact go n 0 m₀ c₀ rfl h0 hk fun _ _ _ _ => rfl
/-- a while by an invariant, cut behind it -/
def WxOut (h₀ : Heap) (L : Addr) (s : Shared) (Led : σ → Led) (ps : σ → List (Str × Value)) (stored : List Str) (m₀ : Str → Option Value) (Exit : σ → Prop) (s₂ : Shared) : Prop :=
  ∃ (c : σ) (h : Heap) (tk : Nat) (u : Str → Option Value), s₂ = { s with heap := h, toks := tk } ∧ Exit c ∧ Fr h₀ L h (kstB (fun z => if stored.contains z then u z else m₀ z) (ps c)) ∧ News h₀ L h (Led c)
theorem WxOut.intro {L : Addr} {Led : σ → Led} {ps : σ → List (Str × Value)} {stored : List Str} {m₀ : Str → Option Value} {Exit : σ → Prop} (c : σ) {h : Heap} {tk : Nat} {u : Str → Option Value} (he : Exit c) (F : Fr h₀ L h (kstB (fun z => if stored.contains z then u z else m₀ z) (ps c))) (N : News h₀ L h (Led c)) :
    WxOut h₀ L s Led ps stored m₀ Exit { s with heap := h, toks := tk } := ⟨c, h, tk, u, rfl, he, F, N⟩
theorem while_cut {L : Addr} {test : Expr} {pos : Pos} {m₀ : Str → Option Value} (Led : σ → Led) (ps : σ → List (Str × Value)) (stored : List Str) (P : σ → Prop) (μ : σ → Nat) (Exit : σ → Prop) (c₀ : σ)
    (F : Fr h₀ L s.heap m₀) (N : News h₀ L s.heap (Led c₀)) (hk : ∀ p ∈ ps c₀, m₀ p.1 = some p.2) (hp : P c₀)
    (turn : ∀ (c : σ) (u : Str → Option Value) h tk, P c → Fr h₀ L h (kstB (fun z => if stored.contains z then u z else m₀ z) (ps c)) → News h₀ L h (Led c) →
      wpAny (model prog w) A (isTrue test env (eval test env)) (fun b s₂ =>
        if b = true then wpAny (model prog w) A (execs body env) (KswPost h₀ L s Led ps (fun _ => True) stored m₀ P μ (fun _ _ => False) c) E s₂ else WxOut h₀ L s Led ps stored m₀ Exit s₂) E { s with heap := h, toks := tk })
    (after : ∀ (c : σ) (u : Str → Option Value) h tk, Exit c → Fr h₀ L h (kstB (fun z => if stored.contains z then u z else m₀ z) (ps c)) → News h₀ L h (Led c) → Q .next { s with heap := h, toks := tk })
    (hE : PassesOwn (model prog w) A env E := by passes_own) :
    wpAny (model prog w) A (exec (.While test body [] pos) env) Q E s := by
  refine wpAny_mono (Q := fun f s₂ => f = .next ∧ WxOut h₀ L s Led ps stored m₀ Exit s₂) (ksw_while Led ps (fun _ => True) stored P μ c₀ F N trivial hk hp (fun c u h tk _ hc F' N' => ?_) hE) (fun f s₂ h => ?_) fun _ _ e => e
  · refine wpAny_mono (turn c u h tk hc F' N') (fun b s₂ hb => ?_) fun _ _ e => e
    cases b with
    | false => simp only [Bool.false_eq_true, if_false] at hb ⊢; exact ⟨trivial, hb⟩
    | true =>
      simp only [if_true] at hb ⊢
      refine wpAny_mono hb (fun f s₃ hf => ?_) fun _ _ e => e
      cases f with
      | ret v => exact hf.elim
      | brk => exact hf.elim
      | next => exact hf
      | cont => exact hf
  · obtain ⟨rfl, c, h, tk, u, rfl, he, F', N'⟩ := h
    exact after c u h tk he F' N'
end
end

section
section
variable {σ : Type} {prog : Program} {w : World} {A : Around} {E : Value → Shared → Prop} {s : Shared} {env : Env} {h₀ : Heap} {x : Str} {px : Pos} {body : List Stmt} {Q : Flow → Shared → Prop}
def RuEnd (h₀ : Heap) (L : Addr) (s₁ : Shared) (I : Addr) (it : Obj) (Led : σ → Led) (ps : σ → List (Str × Value)) (stored : List Str) (m₀ : Str → Option Value) (Inv : σ → Prop) (s₂ : Shared) : Prop :=
  ∃ c h' tk m' news', s₂ = { s₁ with heap := h', toks := tk } ∧ Fr h₀ L h' m' ∧ News h₀ L h' news' ∧ (∀ p ∈ (I, it) :: Led c, p ∈ news') ∧ (∀ p ∈ ps c, m' p.1 = some p.2) ∧ (∀ z, (∀ p ∈ ps c, z ≠ p.1) → stored.contains z = false → m' z = m₀ z) ∧ Inv c
def RuPost (h₀ : Heap) (L : Addr) (s₁ : Shared) (I : Addr) (it : Obj) (Led : σ → Led) (ps : σ → List (Str × Value)) (stored : List Str) (m₀ : Str → Option Value) (Inv : σ → Prop) (Q : Flow → Shared → Prop) (f : Flow) (s₂ : Shared) : Prop :=
  match f with
  | .ret v => Q (.ret v) s₂
  | .brk => Q .next s₂
  | _ => RuEnd h₀ L s₁ I it Led ps stored m₀ Inv s₂
theorem RuEnd.intro {L : Addr} {s₁ : Shared} {I : Addr} {it : Obj} {Led : σ → Led} {ps : σ → List (Str × Value)} {stored : List Str} {m₀ m' : Str → Option Value} {Inv : σ → Prop} {h' : Heap} {tk : Nat} {news' : Mine.Led} (c : σ)
    (F : Fr h₀ L h' m') (N : News h₀ L h' news') (hn : ∀ p ∈ (I, it) :: Led c, p ∈ news') (hk : ∀ p ∈ ps c, m' p.1 = some p.2) (hr : ∀ z, (∀ p ∈ ps c, z ≠ p.1) → stored.contains z = false → m' z = m₀ z) (hi : Inv c) :
    RuEnd h₀ L s₁ I it Led ps stored m₀ Inv { s₁ with heap := h', toks := tk } := ⟨c, h', tk, m', news', rfl, F, N, hn, hk, hr, hi⟩
/-- a for over a range, any name as its target (a captured one too), by an invariant over its whole state, the ledger closed -/
theorem range_turnsT {r : Addr} {a₀ b₀ : Int} {t₀ u₀ v₀ : Tok} {n : Nat} {m₀ : Str → Option Value} (Led : σ → Led) (ps : σ → List (Str × Value)) (stored : List Str) (Inv : Nat → σ → Prop) (c₀ : σ)
    (hh : A.handled = none) (hr : IsRange s.heap r a₀ b₀ 1 t₀ u₀ v₀) (hsmall : Builtin.Range.small a₀ b₀ 1 = true) (hn : Builtin.Range.rangeSize a₀ b₀ 1 = (n : Int)) (F : Fr h₀ env.locals s.heap m₀) (N : News h₀ env.locals s.heap (Led c₀))
    (hadr : ∀ c, (Led c).map (·.1) = (Led c₀).map (·.1)) (hk : ∀ p ∈ ps c₀, m₀ p.1 = some p.2) (h0 : Inv 0 c₀)
    (turn : ∀ (I : Addr) (i : Nat) (c : σ) (u : Str → Option Value) t h tk, i < n → Inv i c → (∀ p ∈ Led c, p.1 < I) →
      Fr h₀ env.locals h (kstB (fun z => if stored.contains z then u z else m₀ z) (ps c)) →
      News h₀ env.locals h ((I, itR (a₀ + ((i + 1 : Nat) : Int)) ((n : Int) - ((i + 1 : Nat) : Int))) :: Led c) →
      wpAny (model prog w) A (assign (.Name x px) env (.int (a₀ + (i : Int)) t)) (fun _ s₂ => wpAny (model prog w) A (execs body env) (RuPost h₀ env.locals { s with heap := h, toks := tk } I (itR (a₀ + ((i + 1 : Nat) : Int)) ((n : Int) - ((i + 1 : Nat) : Int))) Led ps stored m₀ (Inv (i + 1)) Q) E s₂) E { s with heap := h, toks := tk })
    (done : ∀ (c : σ) (u : Str → Option Value) h tk, Inv n c → Fr h₀ env.locals h (kstB (fun z => if stored.contains z then u z else m₀ z) (ps c)) → News h₀ env.locals h (Led c) → Q .next { s with heap := h, toks := tk }) :
    wpAny (model prog w) A (pyIter (.ref r)) (fun it s₂ => TurnsAt prog w A h₀ env (.Name x px) body Q E it s₂) E s := by
  refine wpAny_pyIter_range hr hsmall ?_
  have W : Walks prog w A s.heap.objs.size [s.heap.objs.size] [s.heap.objs.size] n (fun i v => i < n ∧ ∃ t, v = .int (a₀ + i * 1) t)
      (fun i h => IsRangeIter h s.heap.objs.size (a₀ + (i : Nat) * 1) ((n : Int) - (i : Nat)) 1) := (Walks.range hh _ a₀ 1 n).bound
  have hnew := next_is_new F
  have low : ∀ c, ∀ p ∈ Led c, p.1 < s.heap.objs.size := fun c p hp => by
    have h1 : p.1 ∈ (Led c).map (·.1) := List.mem_map_of_mem hp
    rw [hadr c] at h1
    obtain ⟨q, hq, e⟩ := List.mem_map.mp h1
    rw [← e]; exact Heap.lt_size (N q hq).1
  have off : ∀ c, ∀ p ∈ Led c, p.1 ∉ [s.heap.objs.size] := fun c p hp hI => absurd (low c p hp) ((List.mem_singleton.mp hI) ▸ Nat.lt_irrefl _)
  let J : Nat → (Str → Option Value) → List (Addr × Obj) → Prop := fun i m nx => ∃ c : σ, nx = Led c ∧ (∀ p ∈ ps c, m p.1 = some p.2) ∧ (∀ z, (∀ p ∈ ps c, z ≠ p.1) → stored.contains z = false → m z = m₀ z) ∧ Inv i c
  refine ⟨s.heap.objs.size, [s.heap.objs.size], [s.heap.objs.size], n, _, _, _, m₀, Led c₀, J, rfl, KTurns.ofWalks W (fun i v s Q E st q => ?_), ?_, ?_, off c₀, ?_, F.push _, (fun p hp => ⟨Heap.get?_push_of_some _ (N p hp).1, (N p hp).2⟩), ⟨c₀, rfl, hk, fun _ _ _ => rfl, h0⟩, ?_, ?_⟩
  · exact wpAny_pure q
  · intro hm
    exact absurd F.ns.lt ((List.mem_singleton.mp hm) ▸ Nat.lt_irrefl _)
  · intro b hb
    rw [List.mem_singleton.mp hb]
    exact hnew
  · show IsRangeIter _ _ _ _ _; rw [hn]; simpa using Heap.get?_push_size _ rfl
  · rintro i v m₁ news₁ hh' tk' own hin ⟨_, t, rfl⟩ ⟨c, rfl, h1, h2, hc⟩ hoff hown hget hall hst F₁ N₁
    have hst' : hh'.get? s.heap.objs.size = some (itR (a₀ + ((i + 1 : Nat) : Int)) ((n : Int) - ((i + 1 : Nat) : Int))) := by
      have q : IsRangeIter hh' s.heap.objs.size (a₀ + ((i + 1 : Nat) : Int) * 1) ((n : Int) - ((i + 1 : Nat) : Int)) 1 := hst
      rw [Int.mul_one] at q
      exact q
    have hmem := hall s.heap.objs.size (List.mem_singleton.mpr rfl) hnew _ hst'
    have e1 : a₀ + (i : Int) * 1 = a₀ + (i : Int) := by rw [Int.mul_one]
    rw [e1]
    have N₂ : News h₀ env.locals hh' ((s.heap.objs.size, itR (a₀ + ((i + 1 : Nat) : Int)) ((n : Int) - ((i + 1 : Nat) : Int))) :: Led c) := fun p hp => by
      rcases List.mem_cons.mp hp with rfl | hp
      · exact N₁ _ (List.mem_append_left _ hmem)
      · exact N₁ _ (List.mem_append_right _ hp)
    refine wpAny_mono (turn s.heap.objs.size i c m₁ t hh' tk' hin hc (low c) (ksw_fr h1 h2 F₁) N₂) (fun _ s₂ p => wpAny_mono p (fun f s₃ p => ?_) fun _ _ e => e) fun _ _ e => e
    have fin : RuEnd h₀ env.locals { s with heap := hh', toks := tk' } s.heap.objs.size (itR (a₀ + ((i + 1 : Nat) : Int)) ((n : Int) - ((i + 1 : Nat) : Int))) Led ps stored m₀ (Inv (i + 1)) s₃ →
        LoopStepU h₀ env.locals [s.heap.objs.size] own (J (i + 1)) { s with heap := hh', toks := tk' } .next s₃ := by
      rintro ⟨c', h', tk, m', news', e, F', N', hs, hk', hr', hi'⟩
      refine ⟨rfl, h', tk, m', Led c', e, F', fun p hp => ?_, off c', c', rfl, hk', hr', hi'⟩
      rcases List.mem_append.mp hp with hp | hp
      · have g1 : p.1 = s.heap.objs.size := List.mem_singleton.mp (hown p hp)
        have g2 : hh'.get? p.1 = some p.2 := hget p hp
        have g3 : p = (s.heap.objs.size, itR (a₀ + ((i + 1 : Nat) : Int)) ((n : Int) - ((i + 1 : Nat) : Int))) := by
          rw [g1, hst'] at g2
          exact Prod.ext g1 (Option.some.inj g2).symm
        rw [g3]; exact N' _ (hs _ (List.mem_cons_self ..))
      · exact N' _ (hs _ (List.mem_cons_of_mem _ hp))
    cases f with
    | ret v => exact p
    | brk => exact p
    | next => exact fin p
    | cont => exact fin p
  · rintro h' tk m' news' F' N' _ ⟨c, rfl, h1, h2, hc⟩
    exact done c m' h' tk hc (ksw_fr h1 h2 F') N'
end
end

section
/-- a block's turn ends: its ledger as it stood -/
def CtEnd (h₀ : Heap) (L : Addr) (m : Str → Option Value) (s₁ : Shared) (I : Addr) (oI : Obj) (C : Addr) (oC : Obj) (D : Addr) (oD : Obj) (news : Led) (R : Value → Prop) (y : Value) (s₂ : Shared) : Prop :=
  ∃ h' tk all, s₂ = { s₁ with heap := h', toks := tk } ∧ Fr h₀ L h' m ∧ News h₀ L h' all ∧ (∀ p ∈ (I, oI) :: (C, oC) :: (D, oD) :: news, p ∈ all) ∧ R y
theorem CtEnd.intro {h₀ : Heap} {L : Addr} {m : Str → Option Value} {s₁ : Shared} {I : Addr} {oI : Obj} {C : Addr} {oC : Obj} {D : Addr} {oD : Obj} {news all : Led} {R : Value → Prop} {y : Value} {h' : Heap} {tk : Nat}
    (F : Fr h₀ L h' m) (N : News h₀ L h' all) (hs : ∀ p ∈ (I, oI) :: (C, oC) :: (D, oD) :: news, p ∈ all) (hr : R y) : CtEnd h₀ L m s₁ I oI C oC D oD news R y { s₁ with heap := h', toks := tk } := ⟨h', tk, all, rfl, F, N, hs, hr⟩
section
variable {prog : Program} {w : World} {A : Around} {h₀ : Heap} {L : Addr} {m : Str → Option Value} {env : Env} {ct elt : Expr} {x : Str} {scope : Scope} {cl : List (Str × Addr)} {s : Shared} {S : Led → Prop} {P : Nat → Value → Prop} {Fin : List Value → Led → Prop}
/-- a block with a test, turn by turn, by an invariant of what it has gathered -/
theorem compT_ind {n : Nat} {news : Led} (Inv : Nat → List Value → Prop) (hS : S news) (h0 : Inv 0 []) (hfin : ∀ ys, Inv n ys → Fin ys news)
    (turn : ∀ i ys, i < n → Inv i ys → ∀ v I oI C oC D m₂ h tk (E' : Value → Shared → Prop), P i v → LCg.NsObj oC m₂ → m₂ x = some v → Fr h₀ L h m → News h₀ L h ((I, oI) :: (C, oC) :: (D, LCg.lst ys) :: news) → LCg.Off3 I C D news →
      wpAny (model prog w) A (isTrue ct (compEnvC scope cl C env) (eval ct (compEnvC scope cl C env))) (fun ok s' => if ok = true then
        wpAny (model prog w) A (eval elt (compEnvC scope cl C env)) (CtEnd h₀ L m { s with heap := h, toks := tk } I oI C oC D (LCg.lst ys) news (fun y => Inv (i + 1) (ys ++ [y]))) E' s'
        else CtEnd h₀ L m { s with heap := h, toks := tk } I oI C oC D (LCg.lst ys) news (fun _ => Inv (i + 1) ys) Value.none s') E' { s with heap := h, toks := tk }) :
    LCt.CompRestT prog w A h₀ L m env ct elt x scope cl s S P Fin n 0 [] news := by
  have go : ∀ k i ys, k + i = n → Inv i ys → LCt.CompRestT prog w A h₀ L m env ct elt x scope cl s S P Fin k i ys news := by
    intro k
    induction k with
    | zero =>
      intro i ys hk hi
      rw [Nat.zero_add] at hk
      exact LCt.CompRestT.zero (hfin ys (hk ▸ hi))
    | succ k ih =>
      intro i ys hk hi
      refine LCt.CompRestT.succ fun v I oI C oC D m₂ h tk E' hv hC hx F N off ne => ?_
      refine wpAny_mono (turn i ys (by omega) hi v I oI C oC D m₂ h tk E' hv hC hx F N off) (fun ok s' hok => ?_) fun _ _ e => e
      cases ok with
      | true =>
        simp only [if_true] at hok ⊢
        refine wpAny_mono hok (fun y s'' hy => ?_) fun _ _ e => e
        obtain ⟨h', tk', all, rfl, F', N', hs, hr⟩ := hy
        exact ⟨h', tk', news, rfl, F', fun p hp => N' p (hs p hp), off, hS, ih (i + 1) _ (by omega) hr⟩
      | false =>
        simp only [Bool.false_eq_true, if_false] at hok ⊢
        obtain ⟨h', tk', all, rfl, F', N', hs, hr⟩ := hok
        exact ⟨h', tk', news, rfl, F', fun p hp => N' p (hs p hp), off, hS, ih (i + 1) _ (by omega) hr⟩
  exact go n 0 [] rfl h0
end
section
variable {prog : Program} {w : World} {A : Around} {h₀ : Heap} {L : Addr} {m : Str → Option Value} {env : Env} {elt : Expr} {x : Str} {scope : Scope} {cl : List (Str × Addr)} {s : Shared} {S : Led → Prop} {P : Nat → Value → Prop} {Fin : List Value → Led → Prop}
/-- the rows that a block has made: each above all that stood, the newest first -/
def Rising : List Addr → Led → Prop
  | [], _ => True
  | a :: r, base => (∀ p ∈ base, p.1 < a) ∧ (∀ b ∈ r, b < a) ∧ Rising r base
abbrev nilRow (a : Addr) : Addr × Obj := (a, W.listOf #[] 0)
/-- a block whose element is a new empty list -/
theorem rows_ind {n : Nat} {base : Led} (hS : ∀ news, S news) (hfin : ∀ as : List Addr, as.length = n → Rising as base → Fin (as.reverse.map Value.ref) (as.map nilRow ++ base))
    (turn : ∀ (news : Led) ys v I oI C oC D m₂ h tk (E' : Value → Shared → Prop) (Q' : Value → Shared → Prop), Fr h₀ L h m → News h₀ L h ((I, oI) :: (C, oC) :: (D, LCg.lst ys) :: news) → 
      (∀ a h' tk', Fr h₀ L h' m → News h₀ L h' (nilRow a :: (I, oI) :: (C, oC) :: (D, LCg.lst ys) :: news) → (∀ p ∈ (I, oI) :: (C, oC) :: (D, LCg.lst ys) :: news, p.1 < a) → Q' (.ref a) { s with heap := h', toks := tk' }) →
      P ys.length v → LCg.NsObj oC m₂ → m₂ x = some v →
      wpAny (model prog w) A (eval elt (compEnvC scope cl C env)) Q' E' { s with heap := h, toks := tk }) :
    LCg.CompRest prog w A h₀ L m env elt x scope cl s S P Fin n 0 [] base := by
  have go : ∀ k i as, k + i = n → as.length = i → Rising as base → LCg.CompRest prog w A h₀ L m env elt x scope cl s S P Fin k i (as.reverse.map Value.ref) (as.map nilRow ++ base) := by
    intro k
    induction k with
    | zero =>
      intro i as hk hl hR
      exact LCg.CompRest.zero (hfin as (by omega) hR)
    | succ k ih =>
      intro i as hk hl hR
      refine LCg.CompRest.succ fun v I oI C oC D m₂ h tk E' hv hC hx F N off ne => ?_
      refine turn _ _ v I oI C oC D m₂ h tk E' _ F N (fun a h' tk' F' N' low => ?_) (by simpa [hl] using hv) hC hx
      have nI : a ≠ I := Nat.ne_of_gt (low (I, oI) (by simp))
      have nC : a ≠ C := Nat.ne_of_gt (low (C, oC) (by simp))
      have nD : a ≠ D := Nat.ne_of_gt (low (D, LCg.lst (as.reverse.map Value.ref)) (by simp))
      refine ⟨h', tk', nilRow a :: (as.map nilRow ++ base), rfl, F', fun p hp => N' p ?_, ⟨⟨nI, nC, nD⟩, off⟩, hS _, ?_⟩
      · simp only [List.mem_cons] at hp ⊢
        rcases hp with h | h | h | h | h <;> simp [h]
      · have := ih (i + 1) (a :: as) (by omega) (by simp [hl]) ⟨fun p hp => low p (by simp [hp]), fun b hb => low (nilRow b) ?_, hR⟩
        · simpa using this
        · simp only [List.mem_cons, List.mem_append, List.mem_map]
          exact .inr (.inr (.inr (.inl ⟨b, hb, rfl⟩)))
  exact go n 0 [] rfl rfl trivial
end
end

section
structure Stn where
  b : Addr
  p : Int
  h : Int
  t : Tok
  u : Tok
  k : Nat
def Stn.val (x : Stn) : Value := .ref x.b
def Stn.ent (x : Stn) : Addr × Obj := (x.b, tup x.p x.h x.t x.u x.k)
def Stn.ph (x : Stn) : PP := (x.p, x.h)
/-- the j-th sign of i, as the text reckons it -/
def bit (i j : Nat) : Bool := decide (((0 + (i : Int)).fdiv (2 ^ (0 + (j : Int)).toNat)).fmod 2 = 1)
def pick {α : Type} (i : Nat) : Nat → List α → List α
  | _, [] => []
  | j, a :: l => if bit i j = true then a :: pick i (j + 1) l else pick i (j + 1) l
theorem pick_snoc {α : Type} (i : Nat) (a : α) : ∀ (l : List α) (j : Nat), pick i j (l ++ [a]) = pick i j l ++ (if bit i (j + l.length) = true then [a] else [])
  | [], j => by simp only [List.nil_append, pick, List.length_nil, Nat.add_zero]
  | b :: l, j => by
    have ih := pick_snoc i a l (j + 1)
    have e : j + 1 + l.length = j + (b :: l).length := by simp only [List.length_cons]; omega
    rw [e] at ih
    simp only [List.cons_append, pick]
    split
    · rw [ih]; rfl
    · exact ih
theorem pick_yes {α : Type} {i j : Nat} {a : α} {l l' : List α} (e : l' = l ++ [a]) (hl : l.length = j) (h : bit i j = true) : pick i 0 l' = pick i 0 l ++ [a] := by
  rw [e, pick_snoc, Nat.zero_add, hl, if_pos h]
theorem pick_no {α : Type} {i j : Nat} {a : α} {l l' : List α} (e : l' = l ++ [a]) (hl : l.length = j) (h : bit i j = false) : pick i 0 l' = pick i 0 l := by
  rw [e, pick_snoc, Nat.zero_add, hl, if_neg (by simp [h]), List.append_nil]
theorem pick_map {α β : Type} (f : α → β) (i : Nat) : ∀ (l : List α) (j : Nat), pick i j (l.map f) = (pick i j l).map f
  | [], _ => rfl
  | a :: l, j => by
    simp only [List.map_cons, pick, pick_map f i l]
    split <;> rfl
theorem pick_sub {α : Type} (i : Nat) : ∀ (l : List α) (j : Nat), (pick i j l).Sublist l
  | [], _ => .slnil
  | a :: l, j => by
    simp only [pick]
    split
    · exact (pick_sub i l (j + 1)).cons_cons a
    · exact (pick_sub i l (j + 1)).cons a
/-- row j behind the first i choices -/
def rowF (sts : List PP) (r : Int) (i j : Nat) : List Int := (List.range i).filterMap fun q => if (pick q 0 sts).length = j then reachF (pick q 0 sts) r else none
theorem rowF_zero {sts : List PP} {r : Int} {j : Nat} : rowF sts r 0 j = [] := rfl
theorem rowF_succ {sts : List PP} {r : Int} {i j : Nat} : rowF sts r (i + 1) j = rowF sts r i j ++ (if (pick i 0 sts).length = j then (reachF (pick i 0 sts) r).toList else []) := by
  unfold rowF
  rw [List.range_succ, List.filterMap_append]
  congr 1
  by_cases h : (pick i 0 sts).length = j
  · simp only [List.filterMap_cons, List.filterMap_nil, if_pos h]
    cases reachF (pick i 0 sts) r <;> rfl
  · simp only [List.filterMap_cons, List.filterMap_nil, if_neg h]
theorem rowF_len {sts : List PP} {r : Int} {i j : Nat} : (rowF sts r i j).length ≤ i := by
  have := List.length_filterMap_le (fun q => if (pick q 0 sts).length = j then reachF (pick q 0 sts) r else none) (List.range i)
  rw [List.length_range] at this
  exact this
theorem rowF_same {sts : List PP} {r : Int} {i j : Nat} (h : (pick i 0 sts).length ≠ j ∨ reachF (pick i 0 sts) r = none) : rowF sts r (i + 1) j = rowF sts r i j := by
  rw [rowF_succ]
  rcases h with h | h
  · rw [if_neg h, List.append_nil]
  · rw [h]; simp
theorem rowF_more {sts : List PP} {r z : Int} {i j : Nat} (h1 : (pick i 0 sts).length = j) (h2 : reachF (pick i 0 sts) r = some z) : rowF sts r (i + 1) j = rowF sts r i j ++ [z] := by
  rw [rowF_succ, if_pos h1, h2]; rfl
def MaxOf (Y : List Int) (M : Int) : Prop := M ∈ Y ∧ ∀ a ∈ Y, a ≤ M
/-- the greatest of each row that is not empty -/
def Res : List (List Int) → List Int → Prop
  | [], rs => rs = []
  | Y :: r, rs => (Y = [] ∧ Res r rs) ∨ ∃ M rs', MaxOf Y M ∧ rs = M :: rs' ∧ Res r rs'
theorem Res.no {Y : List Int} (hY : Y = []) : ∀ {l : List (List Int)} {rs : List Int}, Res l rs → Res (l ++ [Y]) rs
  | [], _, h => .inl ⟨hY, h⟩
  | _ :: _, _, .inl ⟨a, b⟩ => .inl ⟨a, Res.no hY b⟩
  | _ :: _, _, .inr ⟨M, rs', a, b, c⟩ => .inr ⟨M, rs', a, b, Res.no hY c⟩
theorem Res.yes {Y : List Int} {N : Int} (hY : MaxOf Y N) : ∀ {l : List (List Int)} {rs : List Int}, Res l rs → Res (l ++ [Y]) (rs ++ [N])
  | [], _, h => .inr ⟨N, [], hY, by rw [show _ = [] from h]; rfl, rfl⟩
  | _ :: _, _, .inl ⟨a, b⟩ => .inl ⟨a, Res.yes hY b⟩
  | _ :: _, _, .inr ⟨M, rs', a, b, c⟩ => .inr ⟨M, rs' ++ [N], a, by rw [b]; rfl, Res.yes hY c⟩
theorem Res.len : ∀ {l : List (List Int)} {rs : List Int}, Res l rs → rs.length ≤ l.length
  | [], _, h => by rw [show _ = [] from h]; exact Nat.le_refl _
  | _ :: _, _, .inl ⟨_, b⟩ => Nat.le_succ_of_le b.len
  | _ :: _, _, .inr ⟨_, _, _, b, c⟩ => by rw [b]; exact Nat.succ_le_succ c.len
theorem len5 {α : Type} {l : List α} (h : l.length ≤ 5) : l = [] ∨ (∃ a, l = [a]) ∨ (∃ a b, l = [a, b]) ∨ (∃ a b c, l = [a, b, c]) ∨ (∃ a b c d, l = [a, b, c, d]) ∨ ∃ a b c d e, l = [a, b, c, d, e] := by
  match l, h with
  | [], _ => exact .inl rfl
  | [a], _ => exact .inr (.inl ⟨a, rfl⟩)
  | [a, b], _ => exact .inr (.inr (.inl ⟨a, b, rfl⟩))
  | [a, b, c], _ => exact .inr (.inr (.inr (.inl ⟨a, b, c, rfl⟩)))
  | [a, b, c, d], _ => exact .inr (.inr (.inr (.inr (.inl ⟨a, b, c, d, rfl⟩))))
  | [a, b, c, d, e], _ => exact .inr (.inr (.inr (.inr (.inr ⟨a, b, c, d, e, rfl⟩))))
  | _ :: _ :: _ :: _ :: _ :: _ :: _, h => exact absurd h (by simp)
theorem eq5 {α : Type} {l : List α} (h : l.length = 5) : ∃ a b c d e, l = [a, b, c, d, e] := by
  match l, h with
  | [a, b, c, d, e], _ => exact ⟨a, b, c, d, e, rfl⟩
end

section
/-- whatever goes in some order goes in the order of where they lie -/
theorem reachF_sorted : ∀ {l xs : List PP} {r z : Int}, l.Perm xs → l.Pairwise (fun a b => a.1 ≤ b.1) → (∀ q ∈ l, 0 ≤ q.2) → reachF xs r = some z → reachF l r = some z
  | [], xs, r, z, hp, _, _, h => by
    have : xs = [] := List.length_eq_zero_iff.mp hp.length_eq.symm
    subst this; exact h
  | a :: l, xs, r, z, hp, hs, hn, h => by
    have ha : a ∈ xs := hp.mem_iff.mp (by simp)
    obtain ⟨u, v, rfl⟩ := List.append_of_mem ha
    have h0 : 0 ≤ a.2 := hn a (by simp)
    have hm := reachF_move h0 h
    have hp' : l.Perm (u ++ v) := (hp.trans List.perm_middle).cons_inv
    have hs' := List.pairwise_cons.mp hs
    refine reachF_of ?_ (reachF_sorted hp' hs'.2 (fun q hq => hn q (.tail _ hq)) hm)
    match u, h, hp with
    | [], h, _ => exact (reachF_cons h).1
    | q :: u, h, hp =>
      have h1 := (reachF_cons (q := q) (xs := u ++ a :: v) h).1
      have hq : q ∈ a :: l := hp.mem_iff.mpr (by simp)
      rcases List.mem_cons.mp hq with rfl | hq
      · exact h1
      · have := hs'.1 q hq; omega
theorem reachF_take : ∀ {xs : List PP} {r z : Int} (j : Nat), reachF xs r = some z → ∃ z', reachF (xs.take j) r = some z'
  | [], r, z, j, h => ⟨z, by simpa using h⟩
  | q :: xs, r, z, 0, _ => ⟨r, rfl⟩
  | q :: xs, r, z, j + 1, h => by
    obtain ⟨h1, h2⟩ := reachF_cons h
    obtain ⟨z', h3⟩ := reachF_take j h2
    exact ⟨z', reachF_of (q := q) h1 h3⟩
def sel {α : Type} (c : Bool) (a : α) (l : List α) : List α := match c with | true => a :: l | false => l
theorem sub_sel {α : Type} {l t : List α} {a : α} (h : l.Sublist (a :: t)) : ∃ c l', l = sel c a l' ∧ l'.Sublist t := by
  cases h with
  | cons _ h => exact ⟨false, l, rfl, h⟩
  | cons_cons _ h => exact ⟨true, _, rfl, h⟩
theorem pick_all {s0 s1 s2 s3 s4 : PP} {l : List PP} (h : l.Sublist [s0, s1, s2, s3, s4]) : ∃ q, q < 32 ∧ pick q 0 [s0, s1, s2, s3, s4] = l := by
  obtain ⟨c0, l0, rfl, g0⟩ := sub_sel h
  obtain ⟨c1, l1, rfl, g1⟩ := sub_sel g0
  obtain ⟨c2, l2, rfl, g2⟩ := sub_sel g1
  obtain ⟨c3, l3, rfl, g3⟩ := sub_sel g2
  obtain ⟨c4, l4, rfl, g4⟩ := sub_sel g3
  have : l4 = [] := List.sublist_nil.mp g4
  subst this
  have key : ∀ c0 c1 c2 c3 c4 : Bool, ∃ q, q < 32 ∧ bit q 0 = c0 ∧ bit q 1 = c1 ∧ bit q 2 = c2 ∧ bit q 3 = c3 ∧ bit q 4 = c4 := fun c0 c1 c2 c3 c4 => by
    refine ⟨c0.toNat + 2 * c1.toNat + 4 * c2.toNat + 8 * c3.toNat + 16 * c4.toNat, ?_⟩
    cases c0 <;> cases c1 <;> cases c2 <;> cases c3 <;> cases c4 <;> decide
  obtain ⟨q, hq, e0, e1, e2, e3, e4⟩ := key c0 c1 c2 c3 c4
  refine ⟨q, hq, ?_⟩
  simp only [pick, Nat.zero_add, Nat.reduceAdd, e0, e1, e2, e3, e4]
  cases c0 <;> cases c1 <;> cases c2 <;> cases c3 <;> cases c4 <;> rfl
/-- some j of T take a walker from r to z -/
def Goes (T : List PP) (r : Int) (j : Nat) (z : Int) : Prop := ∃ xs, Sub xs T ∧ xs.length = j ∧ reachF xs r = some z
theorem Goes.down {T : List PP} {r z : Int} {j k : Nat} (h : Goes T r j z) (hk : k ≤ j) : ∃ z', Goes T r k z' := by
  obtain ⟨xs, ⟨rest, hp⟩, hl, hr⟩ := h
  obtain ⟨z', h'⟩ := reachF_take k hr
  refine ⟨z', xs.take k, ⟨xs.drop k ++ rest, ?_⟩, by rw [List.length_take]; omega, h'⟩
  rw [← List.append_assoc, List.take_append_drop]; exact hp
theorem row_mem {s0 s1 s2 s3 s4 : PP} {r z : Int} {j : Nat} (hs : [s0, s1, s2, s3, s4].Pairwise fun a b => a.1 ≤ b.1) (hn : ∀ q ∈ [s0, s1, s2, s3, s4], 0 ≤ q.2) :
    z ∈ rowF [s0, s1, s2, s3, s4] r 32 j ↔ Goes [s0, s1, s2, s3, s4] r j z := by
  unfold rowF
  rw [List.mem_filterMap]
  constructor
  · rintro ⟨q, _, h⟩
    split at h
    · rename_i hl
      have hsub := pick_sub q [s0, s1, s2, s3, s4] 0
      obtain ⟨rest, hp⟩ := hsub.exists_perm_append
      exact ⟨_, ⟨rest, hp⟩, hl, h⟩
    · cases h
  · rintro ⟨xs, ⟨rest, hp⟩, hl, hr⟩
    obtain ⟨l, h1, h2⟩ := List.exists_perm_sublist (List.sublist_append_left xs rest) hp.symm
    obtain ⟨q, hq, e⟩ := pick_all h2
    refine ⟨q, List.mem_range.mpr hq, ?_⟩
    rw [e, if_pos (by rw [h1.length_eq, hl])]
    exact reachF_sorted h1 (hs.sublist h2) (fun x hx => hn x (h2.subset hx)) hr
theorem res_goes {T : List PP} {r : Int} : ∀ {rows : List (List Int)} {k : Nat} {rs : List Int}, (∀ j Y, rows[j]? = some Y → ∀ z, z ∈ Y ↔ Goes T r (k + j) z) → Res rows rs →
    (∀ (i : Nat) z, rs[i]? = some z → Goes T r (k + i) z ∧ ∀ z', Goes T r (k + i) z' → z' ≤ z) ∧ ∀ j z', j < rows.length → Goes T r (k + j) z' → j < rs.length
  | [], k, rs, _, h => by
    have e : rs = [] := h
    subst e
    exact ⟨fun i z hi => by simp at hi, fun j z' hj _ => by simp at hj⟩
  | Y :: rows, k, rs, hm, h => by
    have hY := hm 0 Y rfl
    have hm' : ∀ j Y, rows[j]? = some Y → ∀ z, z ∈ Y ↔ Goes T r (k + 1 + j) z := fun j Y' hj z => by
      have := hm (j + 1) Y' (by simpa using hj) z
      rw [show k + 1 + j = k + (j + 1) by omega]; exact this
    rcases h with ⟨rfl, h⟩ | ⟨M, rs', ⟨hM1, hM2⟩, rfl, h⟩
    · have none : ∀ j z, Goes T r (k + j) z → False := fun j z hg => by
        obtain ⟨z', h'⟩ := hg.down (k := k) (by omega)
        have := (hY z').mpr (by simpa using h')
        cases this
      obtain ⟨i1, _⟩ := res_goes hm' h
      refine ⟨fun i z hi => ?_, fun j z' _ hg => (none j z' hg).elim⟩
      have := (i1 i z hi).1
      rw [show k + 1 + i = k + (i + 1) by omega] at this
      exact (none _ _ this).elim
    · obtain ⟨i1, i2⟩ := res_goes hm' h
      refine ⟨fun i z hi => ?_, fun j z' hj hg => ?_⟩
      · match i with
        | 0 =>
          have e : M = z := by simpa using hi
          subst e
          exact ⟨(hY M).mp hM1, fun z' hz => hM2 z' ((hY z').mpr hz)⟩
        | i + 1 =>
          have := i1 i z (by simpa using hi)
          rw [show k + 1 + i = k + (i + 1) by omega] at this
          exact this
      · match j with
        | 0 => simp
        | j + 1 =>
          have := i2 j z' (by simpa using hj) (by rw [show k + 1 + j = k + (j + 1) by omega]; exact hg)
          simp only [List.length_cons]; omega
theorem res_best {s0 s1 s2 s3 s4 : PP} {r : Int} {rs : List Int} (hs : [s0, s1, s2, s3, s4].Pairwise fun a b => a.1 ≤ b.1) (hn : ∀ q ∈ [s0, s1, s2, s3, s4], 0 ≤ q.2)
    (h : Res [rowF [s0, s1, s2, s3, s4] r 32 0, rowF [s0, s1, s2, s3, s4] r 32 1, rowF [s0, s1, s2, s3, s4] r 32 2, rowF [s0, s1, s2, s3, s4] r 32 3, rowF [s0, s1, s2, s3, s4] r 32 4, rowF [s0, s1, s2, s3, s4] r 32 5] rs) : Best [s0, s1, s2, s3, s4] r rs := by
  have hm : ∀ j Y, [rowF [s0, s1, s2, s3, s4] r 32 0, rowF [s0, s1, s2, s3, s4] r 32 1, rowF [s0, s1, s2, s3, s4] r 32 2, rowF [s0, s1, s2, s3, s4] r 32 3, rowF [s0, s1, s2, s3, s4] r 32 4, rowF [s0, s1, s2, s3, s4] r 32 5][j]? = some Y → ∀ z, z ∈ Y ↔ Goes [s0, s1, s2, s3, s4] r (0 + j) z := by
    intro j Y hj z
    rw [Nat.zero_add]
    match j, hj with
    | 0, hj => rw [← Option.some.inj hj]; exact row_mem hs hn
    | 1, hj => rw [← Option.some.inj hj]; exact row_mem hs hn
    | 2, hj => rw [← Option.some.inj hj]; exact row_mem hs hn
    | 3, hj => rw [← Option.some.inj hj]; exact row_mem hs hn
    | 4, hj => rw [← Option.some.inj hj]; exact row_mem hs hn
    | 5, hj => rw [← Option.some.inj hj]; exact row_mem hs hn
    | j + 6, hj => simp at hj
  obtain ⟨i1, i2⟩ := res_goes hm h
  refine ⟨fun k z hk => ?_, fun xs z' hsub hr => ?_⟩
  · obtain ⟨g, up⟩ := i1 k z hk
    rw [Nat.zero_add] at g up
    exact ⟨g, fun xs z' h1 h2 h3 => up z' ⟨xs, h1, h2, h3⟩⟩
  · have hl : xs.length ≤ 5 := by
      obtain ⟨rest, hp⟩ := hsub
      have := hp.length_eq
      simp only [List.length_append, List.length_cons, List.length_nil] at this
      omega
    exact i2 xs.length z' (by simp only [List.length_cons, List.length_nil]; omega) ⟨xs, hsub, by omega, hr⟩
end

section
section
variable {prog : Program} {w : World} {A : Around} {h₀ : Heap} {L : Addr} {m : Str → Option Value} {env : Env} {elt : Expr} {x : Str} {scope : Scope} {cl : List (Str × Addr)} {s : Shared} {S : Led → Prop} {P : Nat → Value → Prop} {Fin : List Value → Led → Prop}
/-- a block without a test, turn by turn, by an invariant of what it has gathered -/
theorem comp_ind {n : Nat} {news : Led} (Inv : Nat → List Value → Prop) (hS : S news) (h0 : Inv 0 []) (hfin : ∀ ys, Inv n ys → Fin ys news)
    (turn : ∀ i ys, i < n → Inv i ys → ∀ v I oI C oC D m₂ h tk (E' : Value → Shared → Prop), P i v → LCg.NsObj oC m₂ → m₂ x = some v → Fr h₀ L h m → News h₀ L h ((I, oI) :: (C, oC) :: (D, LCg.lst ys) :: news) → LCg.Off3 I C D news →
      wpAny (model prog w) A (eval elt (compEnvC scope cl C env)) (CtEnd h₀ L m { s with heap := h, toks := tk } I oI C oC D (LCg.lst ys) news (fun y => Inv (i + 1) (ys ++ [y]))) E' { s with heap := h, toks := tk }) :
    LCg.CompRest prog w A h₀ L m env elt x scope cl s S P Fin n 0 [] news := by
  have go : ∀ k i ys, k + i = n → Inv i ys → LCg.CompRest prog w A h₀ L m env elt x scope cl s S P Fin k i ys news := by
    intro k
    induction k with
    | zero =>
      intro i ys hk hi
      rw [Nat.zero_add] at hk
      exact LCg.CompRest.zero (hfin ys (hk ▸ hi))
    | succ k ih =>
      intro i ys hk hi
      refine LCg.CompRest.succ fun v I oI C oC D m₂ h tk E' hv hC hx F N off ne => ?_
      refine wpAny_mono (turn i ys (by omega) hi v I oI C oC D m₂ h tk E' hv hC hx F N off) (fun y s' hy => ?_) fun _ _ e => e
      obtain ⟨h', tk', all, rfl, F', N', hs, hr⟩ := hy
      exact ⟨h', tk', news, rfl, F', fun p hp => N' p (hs p hp), off, hS, ih (i + 1) _ (by omega) hr⟩
  exact go n 0 [] rfl h0
end
theorem ints_all {vs : List Value} {ns : List Int} (h : IntsAre vs ns) : ∀ v ∈ vs, ∃ n t, v = .int n t := by
  induction h with
  | nil => intro v hv; cases hv
  | cons n t _ ih =>
    intro v hv
    rcases List.mem_cons.mp hv with rfl | hv
    · exact ⟨n, t, rfl⟩
    · exact ih v hv
theorem ints_of : ∀ {l : List Value}, (∀ v ∈ l, ∃ n t, v = .int n t) → ∃ ms, IntsAre l ms
  | [], _ => ⟨[], .nil⟩
  | v :: l, h => by
    obtain ⟨n, t, rfl⟩ := h v (by simp)
    obtain ⟨ms, hm⟩ := ints_of fun u hu => h u (.tail _ hu)
    exact ⟨n :: ms, .cons n t hm⟩
theorem slice_ints {vs : List Value} {ns : List Int} (h : IntsAre vs ns) (lo hi st : Option Int) : ∃ ms, IntsAre (slicePick vs.toArray lo hi st).toList ms := by
  refine ints_of fun v hv => ints_all h v ?_
  unfold slicePick at hv
  obtain ⟨i, _, hi⟩ := List.mem_filterMap.mp hv
  have : vs[i]? = some v := by simpa using hi
  exact List.mem_of_getElem? this
section
variable {prog : Program} {w : World} {A : Around} {E : Value → Shared → Prop} {s : Shared} {h₀ : Heap} {L l : Addr} {m : Str → Option Value} {news : Led} {value slice : Expr} {vs : List Value} {ns : List Int} {vl vu vk : Value} {lo hi st : Option Int} {ops : List Value} {Q : Value → Shared → Prop}
/-- a slice of a list of ints, whatever its step: some list of ints -/
theorem slice3_any (F : Fr h₀ L s.heap m) (N : News h₀ L s.heap news) (hl : s.heap.IsList l vs.toArray) (pl : IsPart vl lo) (pu : IsPart vu hi) (pk : IsPart vk st) (h0 : st ≠ some 0) (hi' : IntsAre vs ns)
    (h : ∀ D ws ms h', Fr h₀ L h' m → News h₀ L h' ((D, W.listOf (List.toArray ws) 0) :: news) → (∀ p ∈ news, p.1 < D) → IntsAre ws ms → Q (.ref D) { s with heap := h' })
    (hs : subscripted slice false (.ref l) (.ref s.heap.objs.size) = operate ops (getItem (.ref l) (.ref s.heap.objs.size))) (ht : ∀ r, letTemporaryGo value (.ref l) r = pure ()) (hz : vs.toArray.size ≤ sizeLine) :
    wpAny (model prog w) A (subscriptTail value slice (.ref l) (.ref s.heap.objs.size)) Q E { s with heap := s.heap.push { cls := .type "slice", data := .fields #[vl, vu, vk] } } := by
  obtain ⟨ms, hm⟩ := slice_ints hi' lo hi st
  exact kmk_slice3_lit F N hl pl pu pk h0 rfl (fun D h' F' N' l1 => h D _ ms h' F' N' l1 hm) hs ht hz
end
theorem ints5 {ys : List Value} {rs : List Int} (h : IntsAre ys rs) (hl : rs.length = 5) : ∃ a b c d e, ∃ t u v w x, ys = [.int a t, .int b u, .int c v, .int d w, .int e x] := by
  cases h with
  | nil => simp at hl
  | cons a t h => cases h with
    | nil => simp at hl
    | cons b u h => cases h with
      | nil => simp at hl
      | cons c v h => cases h with
        | nil => simp at hl
        | cons d w h => cases h with
          | nil => simp at hl
          | cons e x h => cases h with
            | nil => exact ⟨a, b, c, d, e, t, u, v, w, x, rfl⟩
            | cons f y h => simp at hl
end

section
abbrev Ask := Nat × Nat × Bool
/-- what an answer says: a is no greater than b -/
def edge (fs : List Ask) (a b : Nat) : Bool := fs.any fun f => match f.2.2 with | true => f.1 == a && f.2.1 == b | false => f.1 == b && f.2.1 == a
def path (fs : List Ask) : Nat → Nat → Nat → Bool
  | 0, a, b => edge fs a b
  | n + 1, a, b => edge fs a b || [0, 1, 2, 3, 4].any fun c => edge fs a c && path fs n c b
def odd (fs : List Ask) : Bool := fs.any fun f => f.2.2 && path fs 4 f.2.1 f.1
def inOrder (fs : List Ask) : List Nat → Bool
  | a :: b :: r => path fs 4 a b && inOrder fs (b :: r)
  | _ => true
def isPerm (p : List Nat) : Bool := p.length == 5 && p.all fun i => decide (i < 5)
def leafOk (fs : List Ask) (p : Array Nat) : Bool := (isPerm p.toList && inOrder fs p.toList) || odd fs
def treeOk : KasT (Array Nat) → List Ask → Bool
  | .ret p, fs => leafOk fs p
  | .ask i j k, fs => decide (i < 5) && decide (j < 5) && treeOk (k true) ((i, j, true) :: fs) && treeOk (k false) ((i, j, false) :: fs)
theorem sort5_ok : treeOk (kas_sort 5) [] = true := by decide +kernel

section
variable {K : Nat → Int}
def AllSo (K : Nat → Int) (fs : List Ask) : Prop := ∀ f ∈ fs, decide (K f.1 < K f.2.1) = f.2.2
theorem edge_le {fs : List Ask} (h : AllSo K fs) {a b : Nat} (e : edge fs a b = true) : K a ≤ K b := by
  obtain ⟨⟨i, j, c⟩, hf, he⟩ := List.any_eq_true.mp e
  have := h _ hf
  cases c with
  | true =>
    simp only [Bool.and_eq_true, beq_iff_eq] at he
    obtain ⟨rfl, rfl⟩ := he
    have : K i < K j := by simpa using this
    omega
  | false =>
    simp only [Bool.and_eq_true, beq_iff_eq] at he
    obtain ⟨rfl, rfl⟩ := he
    have : ¬ K i < K j := by simpa using this
    omega
theorem path_le {fs : List Ask} (h : AllSo K fs) : ∀ {n a b : Nat}, path fs n a b = true → K a ≤ K b
  | 0, _, _, e => edge_le h e
  | n + 1, a, b, e => by
    rcases Bool.or_eq_true_iff.mp e with e | e
    · exact edge_le h e
    · obtain ⟨c, _, he⟩ := List.any_eq_true.mp e
      obtain ⟨e1, e2⟩ := Bool.and_eq_true_iff.mp he
      have := edge_le h e1
      have := path_le h e2
      omega
theorem odd_no {fs : List Ask} (h : AllSo K fs) (e : odd fs = true) : False := by
  obtain ⟨f, hf, he⟩ := List.any_eq_true.mp e
  obtain ⟨e1, e2⟩ := Bool.and_eq_true_iff.mp he
  have h1 := h f hf
  rw [e1] at h1
  have : K f.1 < K f.2.1 := by simpa using h1
  have := path_le h e2
  omega
/-- the places, in rising order of their keys -/
structure InRow (K : Nat → Int) (p : List Nat) : Prop where
  len : p.length = 5
  lt : ∀ i ∈ p, i < 5
  up : ∀ a b r q, p = q ++ a :: b :: r → K a ≤ K b
theorem inOrder_up {fs : List Ask} (h : AllSo K fs) : ∀ {p : List Nat}, inOrder fs p = true → ∀ a b r q, p = q ++ a :: b :: r → K a ≤ K b
  | [], _, a, b, r, q, e => by cases q <;> cases e
  | [x], _, a, b, r, q, e => by
    match q, e with
    | [], e => cases e
    | _ :: [], e => cases e
    | _ :: _ :: _, e => cases e
  | x :: y :: p, ho, a, b, r, q, e => by
    obtain ⟨e1, e2⟩ := Bool.and_eq_true_iff.mp ho
    match q, e with
    | [], e =>
      injection e with h1 e
      injection e with h2 _
      subst h1; subst h2
      exact path_le h e1
    | z :: q, e =>
      injection e with _ e
      exact inOrder_up h e2 a b r q e
theorem leaf_row {fs : List Ask} {p : Array Nat} (h : AllSo K fs) (e : leafOk fs p = true) : InRow K p.toList := by
  rcases Bool.or_eq_true_iff.mp e with e | e
  · obtain ⟨e1, e2⟩ := Bool.and_eq_true_iff.mp e
    obtain ⟨e3, e4⟩ := Bool.and_eq_true_iff.mp e1
    exact ⟨by simpa using e3, fun i hi => by simpa using List.all_eq_true.mp e4 i hi, inOrder_up h e2⟩
  · exact (odd_no h e).elim
theorem tree_run {cmp : Nat → Nat → (Bool → Shared → Prop) → Shared → Prop} {Q : Array Nat → Shared → Prop} {s : Shared} (hc : ∀ i j C, i < 5 → j < 5 → C (decide (K i < K j)) s → cmp i j C s) (hq : ∀ p, InRow K p.toList → Q p s) :
    ∀ (t : KasT (Array Nat)) (fs : List Ask), treeOk t fs = true → AllSo K fs → t.kasWp cmp Q s
  | .ret p, fs, e, h => hq p (leaf_row h e)
  | .ask i j k, fs, e, h => by
    have e' : (decide (i < 5) && decide (j < 5) && treeOk (k true) ((i, j, true) :: fs) && treeOk (k false) ((i, j, false) :: fs)) = true := e
    simp only [Bool.and_eq_true, decide_eq_true_eq] at e'
    obtain ⟨⟨⟨hi, hj⟩, et⟩, ef⟩ := e'
    refine hc i j _ hi hj ?_
    cases hb : decide (K i < K j) with
    | true =>
      refine tree_run hc hq (k true) _ et fun f hf => ?_
      rcases List.mem_cons.mp hf with rfl | hf
      · exact hb
      · exact h f hf
    | false =>
      refine tree_run hc hq (k false) _ ef fun f hf => ?_
      rcases List.mem_cons.mp hf with rfl | hf
      · exact hb
      · exact h f hf
theorem sort5 {cmp : Nat → Nat → (Bool → Shared → Prop) → Shared → Prop} {Q : Array Nat → Shared → Prop} {s : Shared} (hc : ∀ i j C, i < 5 → j < 5 → C (decide (K i < K j)) s → cmp i j C s) (hq : ∀ p, InRow K p.toList → Q p s) :
    (kas_sort 5).kasWp cmp Q s := tree_run hc hq _ [] sort5_ok fun _ hf => nomatch hf
end
end

section
/-- the objects that a block has made, the newest first: each above all that stood -/
def RisingE : Led → Led → Prop
  | [], _ => True
  | e :: r, base => (∀ p ∈ base, p.1 < e.1) ∧ (∀ p ∈ r, p.1 < e.1) ∧ RisingE r base
def AllOb (Ob : Nat → Obj → Prop) : Led → Prop
  | [] => True
  | e :: r => Ob r.length e.2 ∧ AllOb Ob r
section
variable {prog : Program} {w : World} {A : Around} {h₀ : Heap} {L : Addr} {m : Str → Option Value} {env : Env} {elt : Expr} {x : Str} {scope : Scope} {cl : List (Str × Addr)} {s : Shared} {S : Led → Prop} {P : Nat → Value → Prop} {Fin : List Value → Led → Prop}
/-- a block whose element is a new object -/
theorem made_ind {n : Nat} {base : Led} (Ob : Nat → Obj → Prop) (hS : ∀ news, (∀ p ∈ base, p ∈ news) → S news) (hfin : ∀ es : Led, es.length = n → RisingE es base → AllOb Ob es → Fin (es.reverse.map fun p => Value.ref p.1) (es ++ base))
    (turn : ∀ (news : Led) ys v I oI C oC D m₂ h tk (E' : Value → Shared → Prop) (Q' : Value → Shared → Prop), ys.length < n → (∀ p ∈ base, p ∈ news) → Fr h₀ L h m → News h₀ L h ((I, oI) :: (C, oC) :: (D, LCg.lst ys) :: news) →
      (∀ a o h' tk', Ob ys.length o → Fr h₀ L h' m → News h₀ L h' ((a, o) :: (I, oI) :: (C, oC) :: (D, LCg.lst ys) :: news) → (∀ p ∈ (I, oI) :: (C, oC) :: (D, LCg.lst ys) :: news, p.1 < a) → Q' (.ref a) { s with heap := h', toks := tk' }) →
      P ys.length v → LCg.NsObj oC m₂ → m₂ x = some v →
      wpAny (model prog w) A (eval elt (compEnvC scope cl C env)) Q' E' { s with heap := h, toks := tk }) :
    LCg.CompRest prog w A h₀ L m env elt x scope cl s S P Fin n 0 [] base := by
  have go : ∀ k i es, k + i = n → es.length = i → RisingE es base → AllOb Ob es → LCg.CompRest prog w A h₀ L m env elt x scope cl s S P Fin k i (es.reverse.map fun p => Value.ref p.1) (es ++ base) := by
    intro k
    induction k with
    | zero =>
      intro i es hk hl hR hO
      exact LCg.CompRest.zero (hfin es (by omega) hR hO)
    | succ k ih =>
      intro i es hk hl hR hO
      refine LCg.CompRest.succ fun v I oI C oC D m₂ h tk E' hv hC hx F N off ne => ?_
      have hyl : (es.reverse.map fun p => Value.ref p.1).length = i := by simp [hl]
      refine turn _ _ v I oI C oC D m₂ h tk E' _ (by omega) (fun p hp => List.mem_append_right _ hp) F N (fun a o h' tk' ho F' N' low => ?_) (by rw [hyl]; exact hv) hC hx
      have nI : a ≠ I := Nat.ne_of_gt (low (I, oI) (by simp))
      have nC : a ≠ C := Nat.ne_of_gt (low (C, oC) (by simp))
      have nD : a ≠ D := Nat.ne_of_gt (low (D, LCg.lst (es.reverse.map fun p => Value.ref p.1)) (by simp))
      refine ⟨h', tk', (a, o) :: (es ++ base), rfl, F', fun p hp => N' p ?_, ⟨⟨nI, nC, nD⟩, off⟩, hS _ (fun p hp => .tail _ (List.mem_append_right _ hp)), ?_⟩
      · simp only [List.mem_cons] at hp ⊢
        rcases hp with h | h | h | h | h <;> simp [h]
      · have := ih (i + 1) ((a, o) :: es) (by omega) (by simp [hl]) ⟨fun p hp => low p (by simp [hp]), fun p hp => low p (by simp [hp]), hR⟩ ⟨by rw [hyl] at ho; rw [hl]; exact ho, hO⟩
        simpa using this
  exact go n 0 [] rfl rfl trivial trivial
end
section
variable {prog : Program} {w : World} {A : Around} {s : Shared} {E : Value → Shared → Prop}
/-- two pairs compared, as sorting does -/
theorem ask_tup {a b : Addr} {p h p' h' : Int} {t u t' u' : Tok} {k k' : Nat} {C : Bool → Shared → Prop} (ha : s.heap.get? a = some (tup p h t u k)) (hb : s.heap.get? b = some (tup p' h' t' u' k')) (h0 : 0 ≤ h) (h8 : h < 8) (g0 : 0 ≤ h') (g8 : h' < 8)
    (hc : C (decide (8 * p + h < 8 * p' + h')) s) : wpAny (model prog w) A (keyLt' (tuples' true) (.ref a) (.ref b)) C E s := by
  refine kat_lt ha rfl hb rfl ?_
  show KatLex prog w A true (decide (2 < 2)) C [(.int p t, .int p' t'), (.int h u, .int h' u')] 0 s
  refine kat_cons (wpAny_eqBool_int ?_)
  refine kat_go (fun e => kat_yes ?_) (fun e => kat_no ?_)
  · have e' : p = p' := by simpa using e
    refine kat_cons (wpAny_eqBool_int ?_)
    refine kat_go (fun e => kat_yes (kat_nil ?_)) (fun e => kat_no ?_)
    · have e2 : h = h' := by simpa using e
      subst e'; subst e2
      have : decide (8 * p + h < 8 * p + h) = false := by simp
      rw [this] at hc; exact hc
    · refine kat_one _ _ (lt_int ?_)
      have : decide (8 * p + h < 8 * p' + h') = decide (h < h') := by
        rw [decide_eq_decide]; omega
      rw [this] at hc; exact hc
  · have e' : p ≠ p' := by simpa using e
    refine oneLt_int ?_
    have : decide (8 * p + h < 8 * p' + h') = decide (p < p') := by
      rw [decide_eq_decide]; omega
    rw [this] at hc; exact hc
end
/-- five pairs told by their places in a row: the stations -/
theorem row5 {K : Nat → Int} {p : List Nat} {V : Nat → Value} {ents : Led} (h : InRow K p)
    (get : ∀ i, i < 5 → ∃ x : Stn, V i = x.val ∧ x.ent ∈ ents ∧ 0 ≤ x.h ∧ x.h < 8 ∧ K i = 8 * x.p + x.h) :
    ∃ x0 x1 x2 x3 x4 : Stn, p.map V = [x0.val, x1.val, x2.val, x3.val, x4.val] ∧ (∀ e ∈ [x0.ent, x1.ent, x2.ent, x3.ent, x4.ent], e ∈ ents) ∧ ([x0.ph, x1.ph, x2.ph, x3.ph, x4.ph].Pairwise fun a b => a.1 ≤ b.1) ∧ ∀ q ∈ [x0.ph, x1.ph, x2.ph, x3.ph, x4.ph], 0 ≤ q.2 := by
  obtain ⟨i0, i1, i2, i3, i4, rfl⟩ := eq5 h.len
  obtain ⟨x0, v0, m0, a0, b0, k0⟩ := get i0 (h.lt _ (by simp))
  obtain ⟨x1, v1, m1, a1, b1, k1⟩ := get i1 (h.lt _ (by simp))
  obtain ⟨x2, v2, m2, a2, b2, k2⟩ := get i2 (h.lt _ (by simp))
  obtain ⟨x3, v3, m3, a3, b3, k3⟩ := get i3 (h.lt _ (by simp))
  obtain ⟨x4, v4, m4, a4, b4, k4⟩ := get i4 (h.lt _ (by simp))
  have u0 := h.up i0 i1 [i2, i3, i4] [] rfl
  have u1 := h.up i1 i2 [i3, i4] [i0] rfl
  have u2 := h.up i2 i3 [i4] [i0, i1] rfl
  have u3 := h.up i3 i4 [] [i0, i1, i2] rfl
  refine ⟨x0, x1, x2, x3, x4, by simp [v0, v1, v2, v3, v4], ?_, ?_, ?_⟩
  · intro e he
    simp only [List.mem_cons, List.not_mem_nil, or_false] at he
    rcases he with rfl | rfl | rfl | rfl | rfl <;> assumption
  · simp only [List.pairwise_cons, List.mem_cons, List.not_mem_nil, or_false, Stn.ph, forall_eq_or_imp, forall_eq, false_implies, implies_true, and_true, List.Pairwise.nil]
    omega
  · intro q hq
    simp only [List.mem_cons, List.not_mem_nil, or_false] at hq
    rcases hq with rfl | rfl | rfl | rfl | rfl <;> assumption
end

section
open PySem PySem.Spec PySem.Calls
theorem pop_none (l : Addr) (n : Nat) : Meets (Builtin.«list.pop» ⟨[.ref l], []⟩)
      (fun A R s => s.heap.get? l = some { cls := .type "list", dict := none, data := .seq #[] n, slots := #[] } ∧ raisesNew "IndexError" A R s) :=
  .of_wp fun prog w A R s h => by
    obtain ⟨hp, g, d, tk, os⟩ := s; obtain ⟨hl, h⟩ := h
    wp_walk using wpAny_loadPart' hl
    exact_raiseError plainExc_IndexError h.1 h.2
section
variable {prog : Program} {w : World} {A : Around} {E : Value → Shared → Prop} {s : Shared} {h₀ : Heap} {L : Addr} {news : Led}
theorem pop_refused {l : Addr} {n : Nat} {Q : Value → Shared → Prop} (hA : A.handled = none) (N : News h₀ L s.heap news) (hm : (l, W.listOf #[] n) ∈ news)
    (hE : ∀ h' tk e, Heap.NewExc s.heap h' e "IndexError" → E (.ref e) { s with heap := h', toks := tk }) : wpAny (model prog w) A (call (.builtin "list.pop") [.ref l]) Q E s :=
  call_meets PySem.F.slot_list_pop ⟨_, (N _ hm).1, rfl⟩ PySem.F.entry_list_pop (PySem.F.args_list_pop_1 _) (pop_none l n) ⟨(N _ hm).1, hA, hE⟩
end
end

section
-- a def called within a walk, at any depth
local macro_rules | `(tactic| walk_at "call ref") => `(tactic| (k_here; refine wpAny_call ?_; k_dflt (refine' code_def ?k1 ?k2 ?k3 ?k4 ?k5 ?kA ?kF ?kK ?k6 ?k7 ?k8 ?k9 ?kB ?_ ?c2 ?c3 ?c4 ?c5; ((case kA => exact rfl); (case kF => exact rfl); (case kK => first | exact rfl | assumption); (case k1 => k_asm); (case k2 => k_asm); (case k3 => k_asm); (case k4 => k_asm); (case k5 => k_asm); (case k6 => k_is); (case k7 => k_is); (case k8 => ktr_room); (case k9 => exact BindsTo.of_eq rfl); (case c5 => decide); (case kB => exact locs rfl); (case c2 => exact rfl); (case c3 => exact rfl); (case c4 => exact rfl); k_whole); intro g' L' h' FG' F' N' B' X' T'; (try dsimp only); (try k_lift B'); (try k_fold))))
-- the def that a contract speaks of: entered, its ground told
local macro_rules | `(tactic| cell_enter) => `(tactic| (refine' code_keep ?k1 ?k2 ?k3 ?k4 ?k5 ?kA ?kF ?kK ?k6 ?k7 ?k8 ?k9 ?kB ?_ ?c2 ?c3 ?c4 ?c5; ((case kA => exact rfl); (case kF => exact rfl); (case kK => first | exact rfl | assumption); (case k1 => k_asm); (case k2 => k_asm); (case k3 => k_asm); (case k4 => k_asm); (case k5 => k_asm); (case k6 => k_is); (case k7 => k_is); (case k8 => ktr_room); (case k9 => exact BindsTo.of_eq rfl); (case c5 => decide); (case kB => exact locs rfl); (case c2 => exact rfl); (case c3 => exact rfl); (case c4 => exact rfl); k_whole); intro g' L' h' GK' l1 FG' F' N' B' X' T'; (try k_lt l1); (try dsimp only); (try k_lift B'); (try k_fold)))
-- what a contract's end says of all else
local macro_rules | `(tactic| ktr_rel) => `(tactic| ((rename Keeps _ _ _ => gK); exact fun b o e n => Fr.keep (by assumption) b o (gK b o e n)))
theorem push0 {w mean mg mb} (l : Addr) (v : Int) (tv : Tok) (n : Nat) (hH : IsHp []) :
    Does w mean mg mb 21 [.ref l, .int v tv] 3 [(l, W.listOf #[] n)] (fun r nw => ∃ o', nw = [(l, o')] ∧ r = .none ∧ ∃ its n' ys, o' = W.listOf (List.toArray its) n' ∧ IntsAre its ys ∧ IsHp ys ∧ ys.Perm (v :: [])) := by
  unfold Does
  k_fill
  w_top off
  intro dp un gd cn cs a ccd cl outer A₀ base h₀ L m s Q E B F X N T hk hdp hun hret
  simp only [IsHp] at hH
  refine wpAny_call ?_
  k_dflt cell_enter
  k_steps
  all_goals (
    refine' hret _ _ _ _ ?post ?f ?n ?k
    case f => k_asm
    case n => k_asm
    case k => ktr_rel
    case post =>
      refine ⟨_, rfl, rfl, _, _, _, rfl, (.cons _ _ .nil), ?_, ?_⟩
      · simp at *; (try simp only [IsHp]); (try omega)
      · refine perm_of_count fun a => ?_
        simp [List.count_cons]; (try omega))
end

section
-- a def called within a walk, at any depth
local macro_rules | `(tactic| walk_at "call ref") => `(tactic| (k_here; refine wpAny_call ?_; k_dflt (refine' code_def ?k1 ?k2 ?k3 ?k4 ?k5 ?kA ?kF ?kK ?k6 ?k7 ?k8 ?k9 ?kB ?_ ?c2 ?c3 ?c4 ?c5; ((case kA => exact rfl); (case kF => exact rfl); (case kK => first | exact rfl | assumption); (case k1 => k_asm); (case k2 => k_asm); (case k3 => k_asm); (case k4 => k_asm); (case k5 => k_asm); (case k6 => k_is); (case k7 => k_is); (case k8 => ktr_room); (case k9 => exact BindsTo.of_eq rfl); (case c5 => decide); (case kB => exact locs rfl); (case c2 => exact rfl); (case c3 => exact rfl); (case c4 => exact rfl); k_whole); intro g' L' h' FG' F' N' B' X' T'; (try dsimp only); (try k_lift B'); (try k_fold))))
-- the def that a contract speaks of: entered, its ground told
local macro_rules | `(tactic| cell_enter) => `(tactic| (refine' code_keep ?k1 ?k2 ?k3 ?k4 ?k5 ?kA ?kF ?kK ?k6 ?k7 ?k8 ?k9 ?kB ?_ ?c2 ?c3 ?c4 ?c5; ((case kA => exact rfl); (case kF => exact rfl); (case kK => first | exact rfl | assumption); (case k1 => k_asm); (case k2 => k_asm); (case k3 => k_asm); (case k4 => k_asm); (case k5 => k_asm); (case k6 => k_is); (case k7 => k_is); (case k8 => ktr_room); (case k9 => exact BindsTo.of_eq rfl); (case c5 => decide); (case kB => exact locs rfl); (case c2 => exact rfl); (case c3 => exact rfl); (case c4 => exact rfl); k_whole); intro g' L' h' GK' l1 FG' F' N' B' X' T'; (try k_lt l1); (try dsimp only); (try k_lift B'); (try k_fold)))
-- what a contract's end says of all else
local macro_rules | `(tactic| ktr_rel) => `(tactic| ((rename Keeps _ _ _ => gK); exact fun b o e n => Fr.keep (by assumption) b o (gK b o e n)))
theorem push1 {w mean mg mb} (l : Addr) (x0 : Int) (t0 : Tok) (v : Int) (tv : Tok) (n : Nat) (hH : IsHp [x0]) :
    Does w mean mg mb 21 [.ref l, .int v tv] 3 [(l, W.listOf #[.int x0 t0] n)] (fun r nw => ∃ o', nw = [(l, o')] ∧ r = .none ∧ ∃ its n' ys, o' = W.listOf (List.toArray its) n' ∧ IntsAre its ys ∧ IsHp ys ∧ ys.Perm (v :: [x0])) := by
  unfold Does
  k_fill
  w_top off
  intro dp un gd cn cs a ccd cl outer A₀ base h₀ L m s Q E B F X N T hk hdp hun hret
  simp only [IsHp] at hH
  refine wpAny_call ?_
  k_dflt cell_enter
  k_steps
  all_goals (
    refine' hret _ _ _ _ ?post ?f ?n ?k
    case f => k_asm
    case n => k_asm
    case k => ktr_rel
    case post =>
      refine ⟨_, rfl, rfl, _, _, _, rfl, (.cons _ _ (.cons _ _ .nil)), ?_, ?_⟩
      · simp at *; (try simp only [IsHp]); (try omega)
      · refine perm_of_count fun a => ?_
        simp [List.count_cons]; (try omega))
end

section
-- a def called within a walk, at any depth
local macro_rules | `(tactic| walk_at "call ref") => `(tactic| (k_here; refine wpAny_call ?_; k_dflt (refine' code_def ?k1 ?k2 ?k3 ?k4 ?k5 ?kA ?kF ?kK ?k6 ?k7 ?k8 ?k9 ?kB ?_ ?c2 ?c3 ?c4 ?c5; ((case kA => exact rfl); (case kF => exact rfl); (case kK => first | exact rfl | assumption); (case k1 => k_asm); (case k2 => k_asm); (case k3 => k_asm); (case k4 => k_asm); (case k5 => k_asm); (case k6 => k_is); (case k7 => k_is); (case k8 => ktr_room); (case k9 => exact BindsTo.of_eq rfl); (case c5 => decide); (case kB => exact locs rfl); (case c2 => exact rfl); (case c3 => exact rfl); (case c4 => exact rfl); k_whole); intro g' L' h' FG' F' N' B' X' T'; (try dsimp only); (try k_lift B'); (try k_fold))))
-- the def that a contract speaks of: entered, its ground told
local macro_rules | `(tactic| cell_enter) => `(tactic| (refine' code_keep ?k1 ?k2 ?k3 ?k4 ?k5 ?kA ?kF ?kK ?k6 ?k7 ?k8 ?k9 ?kB ?_ ?c2 ?c3 ?c4 ?c5; ((case kA => exact rfl); (case kF => exact rfl); (case kK => first | exact rfl | assumption); (case k1 => k_asm); (case k2 => k_asm); (case k3 => k_asm); (case k4 => k_asm); (case k5 => k_asm); (case k6 => k_is); (case k7 => k_is); (case k8 => ktr_room); (case k9 => exact BindsTo.of_eq rfl); (case c5 => decide); (case kB => exact locs rfl); (case c2 => exact rfl); (case c3 => exact rfl); (case c4 => exact rfl); k_whole); intro g' L' h' GK' l1 FG' F' N' B' X' T'; (try k_lt l1); (try dsimp only); (try k_lift B'); (try k_fold)))
-- what a contract's end says of all else
local macro_rules | `(tactic| ktr_rel) => `(tactic| ((rename Keeps _ _ _ => gK); exact fun b o e n => Fr.keep (by assumption) b o (gK b o e n)))
theorem push2 {w mean mg mb} (l : Addr) (x0 x1 : Int) (t0 t1 : Tok) (v : Int) (tv : Tok) (n : Nat) (hH : IsHp [x0, x1]) :
    Does w mean mg mb 21 [.ref l, .int v tv] 3 [(l, W.listOf #[.int x0 t0, .int x1 t1] n)] (fun r nw => ∃ o', nw = [(l, o')] ∧ r = .none ∧ ∃ its n' ys, o' = W.listOf (List.toArray its) n' ∧ IntsAre its ys ∧ IsHp ys ∧ ys.Perm (v :: [x0, x1])) := by
  unfold Does
  k_fill
  w_top off
  intro dp un gd cn cs a ccd cl outer A₀ base h₀ L m s Q E B F X N T hk hdp hun hret
  simp only [IsHp] at hH
  refine wpAny_call ?_
  k_dflt cell_enter
  k_steps
  all_goals (
    refine' hret _ _ _ _ ?post ?f ?n ?k
    case f => k_asm
    case n => k_asm
    case k => ktr_rel
    case post =>
      refine ⟨_, rfl, rfl, _, _, _, rfl, (.cons _ _ (.cons _ _ (.cons _ _ .nil))), ?_, ?_⟩
      · simp at *; (try simp only [IsHp]); (try omega)
      · refine perm_of_count fun a => ?_
        simp [List.count_cons]; (try omega))
end

section
-- a def called within a walk, at any depth
local macro_rules | `(tactic| walk_at "call ref") => `(tactic| (k_here; refine wpAny_call ?_; k_dflt (refine' code_def ?k1 ?k2 ?k3 ?k4 ?k5 ?kA ?kF ?kK ?k6 ?k7 ?k8 ?k9 ?kB ?_ ?c2 ?c3 ?c4 ?c5; ((case kA => exact rfl); (case kF => exact rfl); (case kK => first | exact rfl | assumption); (case k1 => k_asm); (case k2 => k_asm); (case k3 => k_asm); (case k4 => k_asm); (case k5 => k_asm); (case k6 => k_is); (case k7 => k_is); (case k8 => ktr_room); (case k9 => exact BindsTo.of_eq rfl); (case c5 => decide); (case kB => exact locs rfl); (case c2 => exact rfl); (case c3 => exact rfl); (case c4 => exact rfl); k_whole); intro g' L' h' FG' F' N' B' X' T'; (try dsimp only); (try k_lift B'); (try k_fold))))
-- the def that a contract speaks of: entered, its ground told
local macro_rules | `(tactic| cell_enter) => `(tactic| (refine' code_keep ?k1 ?k2 ?k3 ?k4 ?k5 ?kA ?kF ?kK ?k6 ?k7 ?k8 ?k9 ?kB ?_ ?c2 ?c3 ?c4 ?c5; ((case kA => exact rfl); (case kF => exact rfl); (case kK => first | exact rfl | assumption); (case k1 => k_asm); (case k2 => k_asm); (case k3 => k_asm); (case k4 => k_asm); (case k5 => k_asm); (case k6 => k_is); (case k7 => k_is); (case k8 => ktr_room); (case k9 => exact BindsTo.of_eq rfl); (case c5 => decide); (case kB => exact locs rfl); (case c2 => exact rfl); (case c3 => exact rfl); (case c4 => exact rfl); k_whole); intro g' L' h' GK' l1 FG' F' N' B' X' T'; (try k_lt l1); (try dsimp only); (try k_lift B'); (try k_fold)))
-- what a contract's end says of all else
local macro_rules | `(tactic| ktr_rel) => `(tactic| ((rename Keeps _ _ _ => gK); exact fun b o e n => Fr.keep (by assumption) b o (gK b o e n)))
theorem push3 {w mean mg mb} (l : Addr) (x0 x1 x2 : Int) (t0 t1 t2 : Tok) (v : Int) (tv : Tok) (n : Nat) (hH : IsHp [x0, x1, x2]) :
    Does w mean mg mb 21 [.ref l, .int v tv] 3 [(l, W.listOf #[.int x0 t0, .int x1 t1, .int x2 t2] n)] (fun r nw => ∃ o', nw = [(l, o')] ∧ r = .none ∧ ∃ its n' ys, o' = W.listOf (List.toArray its) n' ∧ IntsAre its ys ∧ IsHp ys ∧ ys.Perm (v :: [x0, x1, x2])) := by
  unfold Does
  k_fill
  w_top off
  intro dp un gd cn cs a ccd cl outer A₀ base h₀ L m s Q E B F X N T hk hdp hun hret
  simp only [IsHp] at hH
  refine wpAny_call ?_
  k_dflt cell_enter
  k_steps
  all_goals (
    refine' hret _ _ _ _ ?post ?f ?n ?k
    case f => k_asm
    case n => k_asm
    case k => ktr_rel
    case post =>
      refine ⟨_, rfl, rfl, _, _, _, rfl, (.cons _ _ (.cons _ _ (.cons _ _ (.cons _ _ .nil)))), ?_, ?_⟩
      · simp at *; (try simp only [IsHp]); (try omega)
      · refine perm_of_count fun a => ?_
        simp [List.count_cons]; (try omega))
end

section
-- a def called within a walk, at any depth
local macro_rules | `(tactic| walk_at "call ref") => `(tactic| (k_here; refine wpAny_call ?_; k_dflt (refine' code_def ?k1 ?k2 ?k3 ?k4 ?k5 ?kA ?kF ?kK ?k6 ?k7 ?k8 ?k9 ?kB ?_ ?c2 ?c3 ?c4 ?c5; ((case kA => exact rfl); (case kF => exact rfl); (case kK => first | exact rfl | assumption); (case k1 => k_asm); (case k2 => k_asm); (case k3 => k_asm); (case k4 => k_asm); (case k5 => k_asm); (case k6 => k_is); (case k7 => k_is); (case k8 => ktr_room); (case k9 => exact BindsTo.of_eq rfl); (case c5 => decide); (case kB => exact locs rfl); (case c2 => exact rfl); (case c3 => exact rfl); (case c4 => exact rfl); k_whole); intro g' L' h' FG' F' N' B' X' T'; (try dsimp only); (try k_lift B'); (try k_fold))))
-- the def that a contract speaks of: entered, its ground told
local macro_rules | `(tactic| cell_enter) => `(tactic| (refine' code_keep ?k1 ?k2 ?k3 ?k4 ?k5 ?kA ?kF ?kK ?k6 ?k7 ?k8 ?k9 ?kB ?_ ?c2 ?c3 ?c4 ?c5; ((case kA => exact rfl); (case kF => exact rfl); (case kK => first | exact rfl | assumption); (case k1 => k_asm); (case k2 => k_asm); (case k3 => k_asm); (case k4 => k_asm); (case k5 => k_asm); (case k6 => k_is); (case k7 => k_is); (case k8 => ktr_room); (case k9 => exact BindsTo.of_eq rfl); (case c5 => decide); (case kB => exact locs rfl); (case c2 => exact rfl); (case c3 => exact rfl); (case c4 => exact rfl); k_whole); intro g' L' h' GK' l1 FG' F' N' B' X' T'; (try k_lt l1); (try dsimp only); (try k_lift B'); (try k_fold)))
-- what a contract's end says of all else
local macro_rules | `(tactic| ktr_rel) => `(tactic| ((rename Keeps _ _ _ => gK); exact fun b o e n => Fr.keep (by assumption) b o (gK b o e n)))
theorem push4 {w mean mg mb} (l : Addr) (x0 x1 x2 x3 : Int) (t0 t1 t2 t3 : Tok) (v : Int) (tv : Tok) (n : Nat) (hH : IsHp [x0, x1, x2, x3]) :
    Does w mean mg mb 21 [.ref l, .int v tv] 3 [(l, W.listOf #[.int x0 t0, .int x1 t1, .int x2 t2, .int x3 t3] n)] (fun r nw => ∃ o', nw = [(l, o')] ∧ r = .none ∧ ∃ its n' ys, o' = W.listOf (List.toArray its) n' ∧ IntsAre its ys ∧ IsHp ys ∧ ys.Perm (v :: [x0, x1, x2, x3])) := by
  unfold Does
  k_fill
  w_top off
  intro dp un gd cn cs a ccd cl outer A₀ base h₀ L m s Q E B F X N T hk hdp hun hret
  simp only [IsHp] at hH
  refine wpAny_call ?_
  k_dflt cell_enter
  k_steps
  all_goals (
    refine' hret _ _ _ _ ?post ?f ?n ?k
    case f => k_asm
    case n => k_asm
    case k => ktr_rel
    case post =>
      refine ⟨_, rfl, rfl, _, _, _, rfl, (.cons _ _ (.cons _ _ (.cons _ _ (.cons _ _ (.cons _ _ .nil))))), ?_, ?_⟩
      · simp at *; (try simp only [IsHp]); (try omega)
      · refine perm_of_count fun a => ?_
        simp [List.count_cons]; (try omega))
end

section
-- a def called within a walk, at any depth
local macro_rules | `(tactic| walk_at "call ref") => `(tactic| (k_here; refine wpAny_call ?_; k_dflt (refine' code_def ?k1 ?k2 ?k3 ?k4 ?k5 ?kA ?kF ?kK ?k6 ?k7 ?k8 ?k9 ?kB ?_ ?c2 ?c3 ?c4 ?c5; ((case kA => exact rfl); (case kF => exact rfl); (case kK => first | exact rfl | assumption); (case k1 => k_asm); (case k2 => k_asm); (case k3 => k_asm); (case k4 => k_asm); (case k5 => k_asm); (case k6 => k_is); (case k7 => k_is); (case k8 => ktr_room); (case k9 => exact BindsTo.of_eq rfl); (case c5 => decide); (case kB => exact locs rfl); (case c2 => exact rfl); (case c3 => exact rfl); (case c4 => exact rfl); k_whole); intro g' L' h' FG' F' N' B' X' T'; (try dsimp only); (try k_lift B'); (try k_fold))))
-- the def that a contract speaks of: entered, its ground told
local macro_rules | `(tactic| cell_enter) => `(tactic| (refine' code_keep ?k1 ?k2 ?k3 ?k4 ?k5 ?kA ?kF ?kK ?k6 ?k7 ?k8 ?k9 ?kB ?_ ?c2 ?c3 ?c4 ?c5; ((case kA => exact rfl); (case kF => exact rfl); (case kK => first | exact rfl | assumption); (case k1 => k_asm); (case k2 => k_asm); (case k3 => k_asm); (case k4 => k_asm); (case k5 => k_asm); (case k6 => k_is); (case k7 => k_is); (case k8 => ktr_room); (case k9 => exact BindsTo.of_eq rfl); (case c5 => decide); (case kB => exact locs rfl); (case c2 => exact rfl); (case c3 => exact rfl); (case c4 => exact rfl); k_whole); intro g' L' h' GK' l1 FG' F' N' B' X' T'; (try k_lt l1); (try dsimp only); (try k_lift B'); (try k_fold)))
-- what a contract's end says of all else
local macro_rules | `(tactic| ktr_rel) => `(tactic| ((rename Keeps _ _ _ => gK); exact fun b o e n => Fr.keep (by assumption) b o (gK b o e n)))
theorem pop1 {w mean mg mb} (l : Addr) (x0 : Int) (t0 : Tok) (n : Nat) (hH : IsHp [x0]) :
    Does w mean mg mb 28 [.ref l] 4 [(l, W.listOf #[.int x0 t0] n)] (fun r nw => ∃ o', nw = [(l, o')] ∧ ∃ z tz its n' ys, r = .int z tz ∧ o' = W.listOf (List.toArray its) n' ∧ IntsAre its ys ∧ IsHp ys ∧ (z :: ys).Perm [x0] ∧ ∀ y ∈ ys, z ≤ y) := by
  unfold Does
  k_fill
  w_top off
  intro dp un gd cn cs a ccd cl outer A₀ base h₀ L m s Q E B F X N T hk hdp hun hret
  simp only [IsHp] at hH
  refine wpAny_call ?_
  k_dflt cell_enter
  k_steps
  all_goals (
    refine' hret _ _ _ _ ?post ?f ?n ?k
    case f => k_asm
    case n => k_asm
    case k => ktr_rel
    case post =>
      refine ⟨_, rfl, _, _, _, _, _, rfl, rfl, .nil, ?_, ?_, ?_⟩
      · simp at *; (try simp only [IsHp]); (try omega)
      · refine perm_of_count fun a => ?_
        simp [List.count_cons]; (try omega)
      · simp at *; (try omega))
end

section
-- a def called within a walk, at any depth
local macro_rules | `(tactic| walk_at "call ref") => `(tactic| (k_here; refine wpAny_call ?_; k_dflt (refine' code_def ?k1 ?k2 ?k3 ?k4 ?k5 ?kA ?kF ?kK ?k6 ?k7 ?k8 ?k9 ?kB ?_ ?c2 ?c3 ?c4 ?c5; ((case kA => exact rfl); (case kF => exact rfl); (case kK => first | exact rfl | assumption); (case k1 => k_asm); (case k2 => k_asm); (case k3 => k_asm); (case k4 => k_asm); (case k5 => k_asm); (case k6 => k_is); (case k7 => k_is); (case k8 => ktr_room); (case k9 => exact BindsTo.of_eq rfl); (case c5 => decide); (case kB => exact locs rfl); (case c2 => exact rfl); (case c3 => exact rfl); (case c4 => exact rfl); k_whole); intro g' L' h' FG' F' N' B' X' T'; (try dsimp only); (try k_lift B'); (try k_fold))))
-- the def that a contract speaks of: entered, its ground told
local macro_rules | `(tactic| cell_enter) => `(tactic| (refine' code_keep ?k1 ?k2 ?k3 ?k4 ?k5 ?kA ?kF ?kK ?k6 ?k7 ?k8 ?k9 ?kB ?_ ?c2 ?c3 ?c4 ?c5; ((case kA => exact rfl); (case kF => exact rfl); (case kK => first | exact rfl | assumption); (case k1 => k_asm); (case k2 => k_asm); (case k3 => k_asm); (case k4 => k_asm); (case k5 => k_asm); (case k6 => k_is); (case k7 => k_is); (case k8 => ktr_room); (case k9 => exact BindsTo.of_eq rfl); (case c5 => decide); (case kB => exact locs rfl); (case c2 => exact rfl); (case c3 => exact rfl); (case c4 => exact rfl); k_whole); intro g' L' h' GK' l1 FG' F' N' B' X' T'; (try k_lt l1); (try dsimp only); (try k_lift B'); (try k_fold)))
-- what a contract's end says of all else
local macro_rules | `(tactic| ktr_rel) => `(tactic| ((rename Keeps _ _ _ => gK); exact fun b o e n => Fr.keep (by assumption) b o (gK b o e n)))
theorem pop2 {w mean mg mb} (l : Addr) (x0 x1 : Int) (t0 t1 : Tok) (n : Nat) (hH : IsHp [x0, x1]) :
    Does w mean mg mb 28 [.ref l] 4 [(l, W.listOf #[.int x0 t0, .int x1 t1] n)] (fun r nw => ∃ o', nw = [(l, o')] ∧ ∃ z tz its n' ys, r = .int z tz ∧ o' = W.listOf (List.toArray its) n' ∧ IntsAre its ys ∧ IsHp ys ∧ (z :: ys).Perm [x0, x1] ∧ ∀ y ∈ ys, z ≤ y) := by
  unfold Does
  k_fill
  w_top off
  intro dp un gd cn cs a ccd cl outer A₀ base h₀ L m s Q E B F X N T hk hdp hun hret
  simp only [IsHp] at hH
  refine wpAny_call ?_
  k_dflt cell_enter
  k_steps
  all_goals (
    refine' hret _ _ _ _ ?post ?f ?n ?k
    case f => k_asm
    case n => k_asm
    case k => ktr_rel
    case post =>
      refine ⟨_, rfl, _, _, _, _, _, rfl, rfl, (.cons _ _ .nil), ?_, ?_, ?_⟩
      · simp at *; (try simp only [IsHp]); (try omega)
      · refine perm_of_count fun a => ?_
        simp [List.count_cons]; (try omega)
      · simp at *; (try omega))
end

section
-- a def called within a walk, at any depth
local macro_rules | `(tactic| walk_at "call ref") => `(tactic| (k_here; refine wpAny_call ?_; k_dflt (refine' code_def ?k1 ?k2 ?k3 ?k4 ?k5 ?kA ?kF ?kK ?k6 ?k7 ?k8 ?k9 ?kB ?_ ?c2 ?c3 ?c4 ?c5; ((case kA => exact rfl); (case kF => exact rfl); (case kK => first | exact rfl | assumption); (case k1 => k_asm); (case k2 => k_asm); (case k3 => k_asm); (case k4 => k_asm); (case k5 => k_asm); (case k6 => k_is); (case k7 => k_is); (case k8 => ktr_room); (case k9 => exact BindsTo.of_eq rfl); (case c5 => decide); (case kB => exact locs rfl); (case c2 => exact rfl); (case c3 => exact rfl); (case c4 => exact rfl); k_whole); intro g' L' h' FG' F' N' B' X' T'; (try dsimp only); (try k_lift B'); (try k_fold))))
-- the def that a contract speaks of: entered, its ground told
local macro_rules | `(tactic| cell_enter) => `(tactic| (refine' code_keep ?k1 ?k2 ?k3 ?k4 ?k5 ?kA ?kF ?kK ?k6 ?k7 ?k8 ?k9 ?kB ?_ ?c2 ?c3 ?c4 ?c5; ((case kA => exact rfl); (case kF => exact rfl); (case kK => first | exact rfl | assumption); (case k1 => k_asm); (case k2 => k_asm); (case k3 => k_asm); (case k4 => k_asm); (case k5 => k_asm); (case k6 => k_is); (case k7 => k_is); (case k8 => ktr_room); (case k9 => exact BindsTo.of_eq rfl); (case c5 => decide); (case kB => exact locs rfl); (case c2 => exact rfl); (case c3 => exact rfl); (case c4 => exact rfl); k_whole); intro g' L' h' GK' l1 FG' F' N' B' X' T'; (try k_lt l1); (try dsimp only); (try k_lift B'); (try k_fold)))
-- what a contract's end says of all else
local macro_rules | `(tactic| ktr_rel) => `(tactic| ((rename Keeps _ _ _ => gK); exact fun b o e n => Fr.keep (by assumption) b o (gK b o e n)))
theorem pop3 {w mean mg mb} (l : Addr) (x0 x1 x2 : Int) (t0 t1 t2 : Tok) (n : Nat) (hH : IsHp [x0, x1, x2]) :
    Does w mean mg mb 28 [.ref l] 4 [(l, W.listOf #[.int x0 t0, .int x1 t1, .int x2 t2] n)] (fun r nw => ∃ o', nw = [(l, o')] ∧ ∃ z tz its n' ys, r = .int z tz ∧ o' = W.listOf (List.toArray its) n' ∧ IntsAre its ys ∧ IsHp ys ∧ (z :: ys).Perm [x0, x1, x2] ∧ ∀ y ∈ ys, z ≤ y) := by
  unfold Does
  k_fill
  w_top off
  intro dp un gd cn cs a ccd cl outer A₀ base h₀ L m s Q E B F X N T hk hdp hun hret
  simp only [IsHp] at hH
  refine wpAny_call ?_
  k_dflt cell_enter
  k_steps
  all_goals (
    refine' hret _ _ _ _ ?post ?f ?n ?k
    case f => k_asm
    case n => k_asm
    case k => ktr_rel
    case post =>
      refine ⟨_, rfl, _, _, _, _, _, rfl, rfl, (.cons _ _ (.cons _ _ .nil)), ?_, ?_, ?_⟩
      · simp at *; (try simp only [IsHp]); (try omega)
      · refine perm_of_count fun a => ?_
        simp [List.count_cons]; (try omega)
      · simp at *; (try omega))
end

section
-- a def called within a walk, at any depth
local macro_rules | `(tactic| walk_at "call ref") => `(tactic| (k_here; refine wpAny_call ?_; k_dflt (refine' code_def ?k1 ?k2 ?k3 ?k4 ?k5 ?kA ?kF ?kK ?k6 ?k7 ?k8 ?k9 ?kB ?_ ?c2 ?c3 ?c4 ?c5; ((case kA => exact rfl); (case kF => exact rfl); (case kK => first | exact rfl | assumption); (case k1 => k_asm); (case k2 => k_asm); (case k3 => k_asm); (case k4 => k_asm); (case k5 => k_asm); (case k6 => k_is); (case k7 => k_is); (case k8 => ktr_room); (case k9 => exact BindsTo.of_eq rfl); (case c5 => decide); (case kB => exact locs rfl); (case c2 => exact rfl); (case c3 => exact rfl); (case c4 => exact rfl); k_whole); intro g' L' h' FG' F' N' B' X' T'; (try dsimp only); (try k_lift B'); (try k_fold))))
-- the def that a contract speaks of: entered, its ground told
local macro_rules | `(tactic| cell_enter) => `(tactic| (refine' code_keep ?k1 ?k2 ?k3 ?k4 ?k5 ?kA ?kF ?kK ?k6 ?k7 ?k8 ?k9 ?kB ?_ ?c2 ?c3 ?c4 ?c5; ((case kA => exact rfl); (case kF => exact rfl); (case kK => first | exact rfl | assumption); (case k1 => k_asm); (case k2 => k_asm); (case k3 => k_asm); (case k4 => k_asm); (case k5 => k_asm); (case k6 => k_is); (case k7 => k_is); (case k8 => ktr_room); (case k9 => exact BindsTo.of_eq rfl); (case c5 => decide); (case kB => exact locs rfl); (case c2 => exact rfl); (case c3 => exact rfl); (case c4 => exact rfl); k_whole); intro g' L' h' GK' l1 FG' F' N' B' X' T'; (try k_lt l1); (try dsimp only); (try k_lift B'); (try k_fold)))
-- what a contract's end says of all else
local macro_rules | `(tactic| ktr_rel) => `(tactic| ((rename Keeps _ _ _ => gK); exact fun b o e n => Fr.keep (by assumption) b o (gK b o e n)))
theorem pop4 {w mean mg mb} (l : Addr) (x0 x1 x2 x3 : Int) (t0 t1 t2 t3 : Tok) (n : Nat) (hH : IsHp [x0, x1, x2, x3]) :
    Does w mean mg mb 28 [.ref l] 4 [(l, W.listOf #[.int x0 t0, .int x1 t1, .int x2 t2, .int x3 t3] n)] (fun r nw => ∃ o', nw = [(l, o')] ∧ ∃ z tz its n' ys, r = .int z tz ∧ o' = W.listOf (List.toArray its) n' ∧ IntsAre its ys ∧ IsHp ys ∧ (z :: ys).Perm [x0, x1, x2, x3] ∧ ∀ y ∈ ys, z ≤ y) := by
  unfold Does
  k_fill
  w_top off
  intro dp un gd cn cs a ccd cl outer A₀ base h₀ L m s Q E B F X N T hk hdp hun hret
  simp only [IsHp] at hH
  refine wpAny_call ?_
  k_dflt cell_enter
  k_steps
  all_goals (
    refine' hret _ _ _ _ ?post ?f ?n ?k
    case f => k_asm
    case n => k_asm
    case k => ktr_rel
    case post =>
      refine ⟨_, rfl, _, _, _, _, _, rfl, rfl, (.cons _ _ (.cons _ _ (.cons _ _ .nil))), ?_, ?_, ?_⟩
      · simp at *; (try simp only [IsHp]); (try omega)
      · refine perm_of_count fun a => ?_
        simp [List.count_cons]; (try omega)
      · simp at *; (try omega))
end

section
-- a def called within a walk, at any depth
local macro_rules | `(tactic| walk_at "call ref") => `(tactic| (k_here; refine wpAny_call ?_; k_dflt (refine' code_def ?k1 ?k2 ?k3 ?k4 ?k5 ?kA ?kF ?kK ?k6 ?k7 ?k8 ?k9 ?kB ?_ ?c2 ?c3 ?c4 ?c5; ((case kA => exact rfl); (case kF => exact rfl); (case kK => first | exact rfl | assumption); (case k1 => k_asm); (case k2 => k_asm); (case k3 => k_asm); (case k4 => k_asm); (case k5 => k_asm); (case k6 => k_is); (case k7 => k_is); (case k8 => ktr_room); (case k9 => exact BindsTo.of_eq rfl); (case c5 => decide); (case kB => exact locs rfl); (case c2 => exact rfl); (case c3 => exact rfl); (case c4 => exact rfl); k_whole); intro g' L' h' FG' F' N' B' X' T'; (try dsimp only); (try k_lift B'); (try k_fold))))
-- the def that a contract speaks of: entered, its ground told
local macro_rules | `(tactic| cell_enter) => `(tactic| (refine' code_keep ?k1 ?k2 ?k3 ?k4 ?k5 ?kA ?kF ?kK ?k6 ?k7 ?k8 ?k9 ?kB ?_ ?c2 ?c3 ?c4 ?c5; ((case kA => exact rfl); (case kF => exact rfl); (case kK => first | exact rfl | assumption); (case k1 => k_asm); (case k2 => k_asm); (case k3 => k_asm); (case k4 => k_asm); (case k5 => k_asm); (case k6 => k_is); (case k7 => k_is); (case k8 => ktr_room); (case k9 => exact BindsTo.of_eq rfl); (case c5 => decide); (case kB => exact locs rfl); (case c2 => exact rfl); (case c3 => exact rfl); (case c4 => exact rfl); k_whole); intro g' L' h' GK' l1 FG' F' N' B' X' T'; (try k_lt l1); (try dsimp only); (try k_lift B'); (try k_fold)))
-- what a contract's end says of all else
local macro_rules | `(tactic| ktr_rel) => `(tactic| ((rename Keeps _ _ _ => gK); exact fun b o e n => Fr.keep (by assumption) b o (gK b o e n)))
theorem pop5 {w mean mg mb} (l : Addr) (x0 x1 x2 x3 x4 : Int) (t0 t1 t2 t3 t4 : Tok) (n : Nat) (hH : IsHp [x0, x1, x2, x3, x4]) :
    Does w mean mg mb 28 [.ref l] 4 [(l, W.listOf #[.int x0 t0, .int x1 t1, .int x2 t2, .int x3 t3, .int x4 t4] n)] (fun r nw => ∃ o', nw = [(l, o')] ∧ ∃ z tz its n' ys, r = .int z tz ∧ o' = W.listOf (List.toArray its) n' ∧ IntsAre its ys ∧ IsHp ys ∧ (z :: ys).Perm [x0, x1, x2, x3, x4] ∧ ∀ y ∈ ys, z ≤ y) := by
  unfold Does
  k_fill
  w_top off
  intro dp un gd cn cs a ccd cl outer A₀ base h₀ L m s Q E B F X N T hk hdp hun hret
  simp only [IsHp] at hH
  refine wpAny_call ?_
  k_dflt cell_enter
  k_steps
  all_goals (
    refine' hret _ _ _ _ ?post ?f ?n ?k
    case f => k_asm
    case n => k_asm
    case k => ktr_rel
    case post =>
      refine ⟨_, rfl, _, _, _, _, _, rfl, rfl, (.cons _ _ (.cons _ _ (.cons _ _ (.cons _ _ .nil)))), ?_, ?_, ?_⟩
      · simp at *; (try simp only [IsHp]); (try omega)
      · refine perm_of_count fun a => ?_
        simp [List.count_cons]; (try omega)
      · simp at *; (try omega))
end

section
theorem push_ok {w mean mg mb} (l : Addr) (xs : List Int) (its : List Value) (v : Int) (tv : Tok) (n : Nat) (hi : IntsAre its xs) (hH : IsHp xs) (hlen : xs.length ≤ 4) :
    Does w mean mg mb 21 [.ref l, .int v tv] 3 [(l, W.listOf its.toArray n)] (fun r nw => ∃ o', nw = [(l, o')] ∧ r = .none ∧ ∃ its n' ys, o' = W.listOf (List.toArray its) n' ∧ IntsAre its ys ∧ IsHp ys ∧ ys.Perm (v :: xs)) := by
  cases hi with
  | nil => exact push0 _ _ _ _ hH
  | cons x0 t0 hi => cases hi with
    | nil => exact push1 _ _ _ _ _ _ hH
    | cons x1 t1 hi => cases hi with
      | nil => exact push2 _ _ _ _ _ _ _ _ hH
      | cons x2 t2 hi => cases hi with
        | nil => exact push3 _ _ _ _ _ _ _ _ _ _ hH
        | cons x3 t3 hi => cases hi with
          | nil => exact push4 _ _ _ _ _ _ _ _ _ _ _ _ hH
          | cons x4 t4 hi => simp only [List.length_cons] at hlen; omega
theorem pop_ok {w mean mg mb} (l : Addr) (xs : List Int) (its : List Value) (n : Nat) (hi : IntsAre its xs) (hH : IsHp xs) (hne : xs ≠ []) :
    Does w mean mg mb 28 [.ref l] 4 [(l, W.listOf its.toArray n)] (fun r nw => ∃ o', nw = [(l, o')] ∧ ∃ z tz its n' ys, r = .int z tz ∧ o' = W.listOf (List.toArray its) n' ∧ IntsAre its ys ∧ IsHp ys ∧ (z :: ys).Perm xs ∧ ∀ y ∈ ys, z ≤ y) := by
  cases hi with
  | nil => exact absurd rfl hne
  | cons x0 t0 hi => cases hi with
    | nil => exact pop1 _ _ _ _ hH
    | cons x1 t1 hi => cases hi with
      | nil => exact pop2 _ _ _ _ _ _ hH
      | cons x2 t2 hi => cases hi with
        | nil => exact pop3 _ _ _ _ _ _ _ _ hH
        | cons x3 t3 hi => cases hi with
          | nil => exact pop4 _ _ _ _ _ _ _ _ _ _ hH
          | cons x4 t4 hi => cases hi with
            | nil => exact pop5 _ _ _ _ _ _ _ _ _ _ _ _ hH
            | cons x5 t5 hi => exact hH.elim
end

section
-- a def called within a walk, at any depth
local macro_rules | `(tactic| walk_at "call ref") => `(tactic| (k_here; refine wpAny_call ?_; k_dflt (refine' code_def ?k1 ?k2 ?k3 ?k4 ?k5 ?kA ?kF ?kK ?k6 ?k7 ?k8 ?k9 ?kB ?_ ?c2 ?c3 ?c4 ?c5; ((case kA => exact rfl); (case kF => exact rfl); (case kK => first | exact rfl | assumption); (case k1 => k_asm); (case k2 => k_asm); (case k3 => k_asm); (case k4 => k_asm); (case k5 => k_asm); (case k6 => k_is); (case k7 => k_is); (case k8 => ktr_room); (case k9 => exact BindsTo.of_eq rfl); (case c5 => decide); (case kB => exact locs rfl); (case c2 => exact rfl); (case c3 => exact rfl); (case c4 => exact rfl); k_whole); intro g' L' h' FG' F' N' B' X' T'; (try dsimp only); (try k_lift B'); (try k_fold))))
-- the def that a contract speaks of: entered, its ground told
local macro_rules | `(tactic| cell_enter) => `(tactic| (refine' code_keep ?k1 ?k2 ?k3 ?k4 ?k5 ?kA ?kF ?kK ?k6 ?k7 ?k8 ?k9 ?kB ?_ ?c2 ?c3 ?c4 ?c5; ((case kA => exact rfl); (case kF => exact rfl); (case kK => first | exact rfl | assumption); (case k1 => k_asm); (case k2 => k_asm); (case k3 => k_asm); (case k4 => k_asm); (case k5 => k_asm); (case k6 => k_is); (case k7 => k_is); (case k8 => ktr_room); (case k9 => exact BindsTo.of_eq rfl); (case c5 => decide); (case kB => exact locs rfl); (case c2 => exact rfl); (case c3 => exact rfl); (case c4 => exact rfl); k_whole); intro g' L' h' GK' l1 FG' F' N' B' X' T'; (try k_lt l1); (try dsimp only); (try k_lift B'); (try k_fold)))
-- what a contract's end says of all else
local macro_rules | `(tactic| ktr_rel) => `(tactic| ((rename Keeps _ _ _ => gK); exact fun b o e n => Fr.keep (by assumption) b o (gK b o e n)))
theorem reach0 {w mean mg mb} (l  : Addr) ( r : Int) ( tr : Tok) (n  : Nat) :
    Does w mean mg mb 89 [.ref l, .int r tr] 3 [(l, W.listOf #[] n)] (fun v nw => nw = [(l, W.listOf #[] n)] ∧ RetOf (reachF [] r) v) := by
  unfold Does
  k_fill
  w_top off
  intro dp un gd cn cs a ccd cl outer A₀ base h₀ L m s Q E B F X N T hk hdp hun hret
  refine wpAny_call ?_
  k_dflt cell_enter
  k_steps
  all_goals (
    refine' hret _ [(l, W.listOf #[] n)] _ _ ?post ?f ?n ?k
    case f => k_asm
    case n => first | k_asm | (refine' cb_drop ?cbN ?cbS; (case cbN => assumption); (case cbS => kcj_all))
    case k => ktr_rel
    case post =>
      refine ⟨rfl, ?_⟩
      simp [reachF, *, RetOf])
end

section
-- a def called within a walk, at any depth
local macro_rules | `(tactic| walk_at "call ref") => `(tactic| (k_here; refine wpAny_call ?_; k_dflt (refine' code_def ?k1 ?k2 ?k3 ?k4 ?k5 ?kA ?kF ?kK ?k6 ?k7 ?k8 ?k9 ?kB ?_ ?c2 ?c3 ?c4 ?c5; ((case kA => exact rfl); (case kF => exact rfl); (case kK => first | exact rfl | assumption); (case k1 => k_asm); (case k2 => k_asm); (case k3 => k_asm); (case k4 => k_asm); (case k5 => k_asm); (case k6 => k_is); (case k7 => k_is); (case k8 => ktr_room); (case k9 => exact BindsTo.of_eq rfl); (case c5 => decide); (case kB => exact locs rfl); (case c2 => exact rfl); (case c3 => exact rfl); (case c4 => exact rfl); k_whole); intro g' L' h' FG' F' N' B' X' T'; (try dsimp only); (try k_lift B'); (try k_fold))))
-- the def that a contract speaks of: entered, its ground told
local macro_rules | `(tactic| cell_enter) => `(tactic| (refine' code_keep ?k1 ?k2 ?k3 ?k4 ?k5 ?kA ?kF ?kK ?k6 ?k7 ?k8 ?k9 ?kB ?_ ?c2 ?c3 ?c4 ?c5; ((case kA => exact rfl); (case kF => exact rfl); (case kK => first | exact rfl | assumption); (case k1 => k_asm); (case k2 => k_asm); (case k3 => k_asm); (case k4 => k_asm); (case k5 => k_asm); (case k6 => k_is); (case k7 => k_is); (case k8 => ktr_room); (case k9 => exact BindsTo.of_eq rfl); (case c5 => decide); (case kB => exact locs rfl); (case c2 => exact rfl); (case c3 => exact rfl); (case c4 => exact rfl); k_whole); intro g' L' h' GK' l1 FG' F' N' B' X' T'; (try k_lt l1); (try dsimp only); (try k_lift B'); (try k_fold)))
-- what a contract's end says of all else
local macro_rules | `(tactic| ktr_rel) => `(tactic| ((rename Keeps _ _ _ => gK); exact fun b o e n => Fr.keep (by assumption) b o (gK b o e n)))
theorem reach1 {w mean mg mb} (l b0 : Addr) (p0 h0 r : Int) (t0 u0 tr : Tok) (n k0 : Nat) :
    Does w mean mg mb 89 [.ref l, .int r tr] 3 [(l, W.listOf #[.ref b0] n), (b0, tup p0 h0 t0 u0 k0)] (fun v nw => nw = [(l, W.listOf #[.ref b0] n), (b0, tup p0 h0 t0 u0 k0)] ∧ RetOf (reachF [(p0, h0)] r) v) := by
  unfold Does
  k_fill
  w_top off
  intro dp un gd cn cs a ccd cl outer A₀ base h₀ L m s Q E B F X N T hk hdp hun hret
  refine wpAny_call ?_
  k_dflt cell_enter
  k_steps
  all_goals (
    refine' hret _ [(l, W.listOf #[.ref b0] n), (b0, tup p0 h0 t0 u0 k0)] _ _ ?post ?f ?n ?k
    case f => k_asm
    case n => first | k_asm | (refine' cb_drop ?cbN ?cbS; (case cbN => assumption); (case cbS => kcj_all))
    case k => ktr_rel
    case post =>
      refine ⟨rfl, ?_⟩
      simp [reachF, *, RetOf])
end

section
-- a def called within a walk, at any depth
local macro_rules | `(tactic| walk_at "call ref") => `(tactic| (k_here; refine wpAny_call ?_; k_dflt (refine' code_def ?k1 ?k2 ?k3 ?k4 ?k5 ?kA ?kF ?kK ?k6 ?k7 ?k8 ?k9 ?kB ?_ ?c2 ?c3 ?c4 ?c5; ((case kA => exact rfl); (case kF => exact rfl); (case kK => first | exact rfl | assumption); (case k1 => k_asm); (case k2 => k_asm); (case k3 => k_asm); (case k4 => k_asm); (case k5 => k_asm); (case k6 => k_is); (case k7 => k_is); (case k8 => ktr_room); (case k9 => exact BindsTo.of_eq rfl); (case c5 => decide); (case kB => exact locs rfl); (case c2 => exact rfl); (case c3 => exact rfl); (case c4 => exact rfl); k_whole); intro g' L' h' FG' F' N' B' X' T'; (try dsimp only); (try k_lift B'); (try k_fold))))
-- the def that a contract speaks of: entered, its ground told
local macro_rules | `(tactic| cell_enter) => `(tactic| (refine' code_keep ?k1 ?k2 ?k3 ?k4 ?k5 ?kA ?kF ?kK ?k6 ?k7 ?k8 ?k9 ?kB ?_ ?c2 ?c3 ?c4 ?c5; ((case kA => exact rfl); (case kF => exact rfl); (case kK => first | exact rfl | assumption); (case k1 => k_asm); (case k2 => k_asm); (case k3 => k_asm); (case k4 => k_asm); (case k5 => k_asm); (case k6 => k_is); (case k7 => k_is); (case k8 => ktr_room); (case k9 => exact BindsTo.of_eq rfl); (case c5 => decide); (case kB => exact locs rfl); (case c2 => exact rfl); (case c3 => exact rfl); (case c4 => exact rfl); k_whole); intro g' L' h' GK' l1 FG' F' N' B' X' T'; (try k_lt l1); (try dsimp only); (try k_lift B'); (try k_fold)))
-- what a contract's end says of all else
local macro_rules | `(tactic| ktr_rel) => `(tactic| ((rename Keeps _ _ _ => gK); exact fun b o e n => Fr.keep (by assumption) b o (gK b o e n)))
theorem reach2 {w mean mg mb} (l b0 b1 : Addr) (p0 h0 p1 h1 r : Int) (t0 u0 t1 u1 tr : Tok) (n k0 k1 : Nat) :
    Does w mean mg mb 89 [.ref l, .int r tr] 3 [(l, W.listOf #[.ref b0, .ref b1] n), (b0, tup p0 h0 t0 u0 k0), (b1, tup p1 h1 t1 u1 k1)] (fun v nw => nw = [(l, W.listOf #[.ref b0, .ref b1] n), (b0, tup p0 h0 t0 u0 k0), (b1, tup p1 h1 t1 u1 k1)] ∧ RetOf (reachF [(p0, h0), (p1, h1)] r) v) := by
  unfold Does
  k_fill
  w_top off
  intro dp un gd cn cs a ccd cl outer A₀ base h₀ L m s Q E B F X N T hk hdp hun hret
  refine wpAny_call ?_
  k_dflt cell_enter
  k_steps
  all_goals (
    refine' hret _ [(l, W.listOf #[.ref b0, .ref b1] n), (b0, tup p0 h0 t0 u0 k0), (b1, tup p1 h1 t1 u1 k1)] _ _ ?post ?f ?n ?k
    case f => k_asm
    case n => first | k_asm | (refine' cb_drop ?cbN ?cbS; (case cbN => assumption); (case cbS => kcj_all))
    case k => ktr_rel
    case post =>
      refine ⟨rfl, ?_⟩
      simp [reachF, *, RetOf])
end

section
-- a def called within a walk, at any depth
local macro_rules | `(tactic| walk_at "call ref") => `(tactic| (k_here; refine wpAny_call ?_; k_dflt (refine' code_def ?k1 ?k2 ?k3 ?k4 ?k5 ?kA ?kF ?kK ?k6 ?k7 ?k8 ?k9 ?kB ?_ ?c2 ?c3 ?c4 ?c5; ((case kA => exact rfl); (case kF => exact rfl); (case kK => first | exact rfl | assumption); (case k1 => k_asm); (case k2 => k_asm); (case k3 => k_asm); (case k4 => k_asm); (case k5 => k_asm); (case k6 => k_is); (case k7 => k_is); (case k8 => ktr_room); (case k9 => exact BindsTo.of_eq rfl); (case c5 => decide); (case kB => exact locs rfl); (case c2 => exact rfl); (case c3 => exact rfl); (case c4 => exact rfl); k_whole); intro g' L' h' FG' F' N' B' X' T'; (try dsimp only); (try k_lift B'); (try k_fold))))
-- the def that a contract speaks of: entered, its ground told
local macro_rules | `(tactic| cell_enter) => `(tactic| (refine' code_keep ?k1 ?k2 ?k3 ?k4 ?k5 ?kA ?kF ?kK ?k6 ?k7 ?k8 ?k9 ?kB ?_ ?c2 ?c3 ?c4 ?c5; ((case kA => exact rfl); (case kF => exact rfl); (case kK => first | exact rfl | assumption); (case k1 => k_asm); (case k2 => k_asm); (case k3 => k_asm); (case k4 => k_asm); (case k5 => k_asm); (case k6 => k_is); (case k7 => k_is); (case k8 => ktr_room); (case k9 => exact BindsTo.of_eq rfl); (case c5 => decide); (case kB => exact locs rfl); (case c2 => exact rfl); (case c3 => exact rfl); (case c4 => exact rfl); k_whole); intro g' L' h' GK' l1 FG' F' N' B' X' T'; (try k_lt l1); (try dsimp only); (try k_lift B'); (try k_fold)))
-- what a contract's end says of all else
local macro_rules | `(tactic| ktr_rel) => `(tactic| ((rename Keeps _ _ _ => gK); exact fun b o e n => Fr.keep (by assumption) b o (gK b o e n)))
theorem reach3 {w mean mg mb} (l b0 b1 b2 : Addr) (p0 h0 p1 h1 p2 h2 r : Int) (t0 u0 t1 u1 t2 u2 tr : Tok) (n k0 k1 k2 : Nat) :
    Does w mean mg mb 89 [.ref l, .int r tr] 3 [(l, W.listOf #[.ref b0, .ref b1, .ref b2] n), (b0, tup p0 h0 t0 u0 k0), (b1, tup p1 h1 t1 u1 k1), (b2, tup p2 h2 t2 u2 k2)] (fun v nw => nw = [(l, W.listOf #[.ref b0, .ref b1, .ref b2] n), (b0, tup p0 h0 t0 u0 k0), (b1, tup p1 h1 t1 u1 k1), (b2, tup p2 h2 t2 u2 k2)] ∧ RetOf (reachF [(p0, h0), (p1, h1), (p2, h2)] r) v) := by
  unfold Does
  k_fill
  w_top off
  intro dp un gd cn cs a ccd cl outer A₀ base h₀ L m s Q E B F X N T hk hdp hun hret
  refine wpAny_call ?_
  k_dflt cell_enter
  k_steps
  all_goals (
    refine' hret _ [(l, W.listOf #[.ref b0, .ref b1, .ref b2] n), (b0, tup p0 h0 t0 u0 k0), (b1, tup p1 h1 t1 u1 k1), (b2, tup p2 h2 t2 u2 k2)] _ _ ?post ?f ?n ?k
    case f => k_asm
    case n => first | k_asm | (refine' cb_drop ?cbN ?cbS; (case cbN => assumption); (case cbS => kcj_all))
    case k => ktr_rel
    case post =>
      refine ⟨rfl, ?_⟩
      simp [reachF, *, RetOf])
end

section
-- a def called within a walk, at any depth
local macro_rules | `(tactic| walk_at "call ref") => `(tactic| (k_here; refine wpAny_call ?_; k_dflt (refine' code_def ?k1 ?k2 ?k3 ?k4 ?k5 ?kA ?kF ?kK ?k6 ?k7 ?k8 ?k9 ?kB ?_ ?c2 ?c3 ?c4 ?c5; ((case kA => exact rfl); (case kF => exact rfl); (case kK => first | exact rfl | assumption); (case k1 => k_asm); (case k2 => k_asm); (case k3 => k_asm); (case k4 => k_asm); (case k5 => k_asm); (case k6 => k_is); (case k7 => k_is); (case k8 => ktr_room); (case k9 => exact BindsTo.of_eq rfl); (case c5 => decide); (case kB => exact locs rfl); (case c2 => exact rfl); (case c3 => exact rfl); (case c4 => exact rfl); k_whole); intro g' L' h' FG' F' N' B' X' T'; (try dsimp only); (try k_lift B'); (try k_fold))))
-- the def that a contract speaks of: entered, its ground told
local macro_rules | `(tactic| cell_enter) => `(tactic| (refine' code_keep ?k1 ?k2 ?k3 ?k4 ?k5 ?kA ?kF ?kK ?k6 ?k7 ?k8 ?k9 ?kB ?_ ?c2 ?c3 ?c4 ?c5; ((case kA => exact rfl); (case kF => exact rfl); (case kK => first | exact rfl | assumption); (case k1 => k_asm); (case k2 => k_asm); (case k3 => k_asm); (case k4 => k_asm); (case k5 => k_asm); (case k6 => k_is); (case k7 => k_is); (case k8 => ktr_room); (case k9 => exact BindsTo.of_eq rfl); (case c5 => decide); (case kB => exact locs rfl); (case c2 => exact rfl); (case c3 => exact rfl); (case c4 => exact rfl); k_whole); intro g' L' h' GK' l1 FG' F' N' B' X' T'; (try k_lt l1); (try dsimp only); (try k_lift B'); (try k_fold)))
-- what a contract's end says of all else
local macro_rules | `(tactic| ktr_rel) => `(tactic| ((rename Keeps _ _ _ => gK); exact fun b o e n => Fr.keep (by assumption) b o (gK b o e n)))
theorem reach4 {w mean mg mb} (l b0 b1 b2 b3 : Addr) (p0 h0 p1 h1 p2 h2 p3 h3 r : Int) (t0 u0 t1 u1 t2 u2 t3 u3 tr : Tok) (n k0 k1 k2 k3 : Nat) :
    Does w mean mg mb 89 [.ref l, .int r tr] 3 [(l, W.listOf #[.ref b0, .ref b1, .ref b2, .ref b3] n), (b0, tup p0 h0 t0 u0 k0), (b1, tup p1 h1 t1 u1 k1), (b2, tup p2 h2 t2 u2 k2), (b3, tup p3 h3 t3 u3 k3)] (fun v nw => nw = [(l, W.listOf #[.ref b0, .ref b1, .ref b2, .ref b3] n), (b0, tup p0 h0 t0 u0 k0), (b1, tup p1 h1 t1 u1 k1), (b2, tup p2 h2 t2 u2 k2), (b3, tup p3 h3 t3 u3 k3)] ∧ RetOf (reachF [(p0, h0), (p1, h1), (p2, h2), (p3, h3)] r) v) := by
  unfold Does
  k_fill
  w_top off
  intro dp un gd cn cs a ccd cl outer A₀ base h₀ L m s Q E B F X N T hk hdp hun hret
  refine wpAny_call ?_
  k_dflt cell_enter
  k_steps
  all_goals (
    refine' hret _ [(l, W.listOf #[.ref b0, .ref b1, .ref b2, .ref b3] n), (b0, tup p0 h0 t0 u0 k0), (b1, tup p1 h1 t1 u1 k1), (b2, tup p2 h2 t2 u2 k2), (b3, tup p3 h3 t3 u3 k3)] _ _ ?post ?f ?n ?k
    case f => k_asm
    case n => first | k_asm | (refine' cb_drop ?cbN ?cbS; (case cbN => assumption); (case cbS => kcj_all))
    case k => ktr_rel
    case post =>
      refine ⟨rfl, ?_⟩
      simp [reachF, *, RetOf])
end

section
-- a def called within a walk, at any depth
local macro_rules | `(tactic| walk_at "call ref") => `(tactic| (k_here; refine wpAny_call ?_; k_dflt (refine' code_def ?k1 ?k2 ?k3 ?k4 ?k5 ?kA ?kF ?kK ?k6 ?k7 ?k8 ?k9 ?kB ?_ ?c2 ?c3 ?c4 ?c5; ((case kA => exact rfl); (case kF => exact rfl); (case kK => first | exact rfl | assumption); (case k1 => k_asm); (case k2 => k_asm); (case k3 => k_asm); (case k4 => k_asm); (case k5 => k_asm); (case k6 => k_is); (case k7 => k_is); (case k8 => ktr_room); (case k9 => exact BindsTo.of_eq rfl); (case c5 => decide); (case kB => exact locs rfl); (case c2 => exact rfl); (case c3 => exact rfl); (case c4 => exact rfl); k_whole); intro g' L' h' FG' F' N' B' X' T'; (try dsimp only); (try k_lift B'); (try k_fold))))
-- the def that a contract speaks of: entered, its ground told
local macro_rules | `(tactic| cell_enter) => `(tactic| (refine' code_keep ?k1 ?k2 ?k3 ?k4 ?k5 ?kA ?kF ?kK ?k6 ?k7 ?k8 ?k9 ?kB ?_ ?c2 ?c3 ?c4 ?c5; ((case kA => exact rfl); (case kF => exact rfl); (case kK => first | exact rfl | assumption); (case k1 => k_asm); (case k2 => k_asm); (case k3 => k_asm); (case k4 => k_asm); (case k5 => k_asm); (case k6 => k_is); (case k7 => k_is); (case k8 => ktr_room); (case k9 => exact BindsTo.of_eq rfl); (case c5 => decide); (case kB => exact locs rfl); (case c2 => exact rfl); (case c3 => exact rfl); (case c4 => exact rfl); k_whole); intro g' L' h' GK' l1 FG' F' N' B' X' T'; (try k_lt l1); (try dsimp only); (try k_lift B'); (try k_fold)))
-- what a contract's end says of all else
local macro_rules | `(tactic| ktr_rel) => `(tactic| ((rename Keeps _ _ _ => gK); exact fun b o e n => Fr.keep (by assumption) b o (gK b o e n)))
theorem reach5 {w mean mg mb} (l b0 b1 b2 b3 b4 : Addr) (p0 h0 p1 h1 p2 h2 p3 h3 p4 h4 r : Int) (t0 u0 t1 u1 t2 u2 t3 u3 t4 u4 tr : Tok) (n k0 k1 k2 k3 k4 : Nat) :
    Does w mean mg mb 89 [.ref l, .int r tr] 3 [(l, W.listOf #[.ref b0, .ref b1, .ref b2, .ref b3, .ref b4] n), (b0, tup p0 h0 t0 u0 k0), (b1, tup p1 h1 t1 u1 k1), (b2, tup p2 h2 t2 u2 k2), (b3, tup p3 h3 t3 u3 k3), (b4, tup p4 h4 t4 u4 k4)] (fun v nw => nw = [(l, W.listOf #[.ref b0, .ref b1, .ref b2, .ref b3, .ref b4] n), (b0, tup p0 h0 t0 u0 k0), (b1, tup p1 h1 t1 u1 k1), (b2, tup p2 h2 t2 u2 k2), (b3, tup p3 h3 t3 u3 k3), (b4, tup p4 h4 t4 u4 k4)] ∧ RetOf (reachF [(p0, h0), (p1, h1), (p2, h2), (p3, h3), (p4, h4)] r) v) := by
  unfold Does
  k_fill
  w_top off
  intro dp un gd cn cs a ccd cl outer A₀ base h₀ L m s Q E B F X N T hk hdp hun hret
  refine wpAny_call ?_
  k_dflt cell_enter
  k_steps
  all_goals (
    refine' hret _ [(l, W.listOf #[.ref b0, .ref b1, .ref b2, .ref b3, .ref b4] n), (b0, tup p0 h0 t0 u0 k0), (b1, tup p1 h1 t1 u1 k1), (b2, tup p2 h2 t2 u2 k2), (b3, tup p3 h3 t3 u3 k3), (b4, tup p4 h4 t4 u4 k4)] _ _ ?post ?f ?n ?k
    case f => k_asm
    case n => first | k_asm | (refine' cb_drop ?cbN ?cbS; (case cbN => assumption); (case cbS => kcj_all))
    case k => ktr_rel
    case post =>
      refine ⟨rfl, ?_⟩
      simp [reachF, *, RetOf])
end

section
theorem reach_ok {w mean mg mb} (l : Addr) (es : List Stn) (r : Int) (tr : Tok) (n : Nat) (hlen : es.length ≤ 5) :
    Does w mean mg mb 89 [.ref l, .int r tr] 3 ((l, W.listOf (es.map Stn.val).toArray n) :: es.map Stn.ent) (fun v nw => nw = (l, W.listOf (es.map Stn.val).toArray n) :: es.map Stn.ent ∧ RetOf (reachF (es.map Stn.ph) r) v) := by
  match es, hlen with
  | [], _ => exact reach0 _ _ _ _
  | [a], _ => exact reach1 _ _ _ _ _ _ _ _ _ _
  | [a, b], _ => exact reach2 _ _ _ _ _ _ _ _ _ _ _ _ _ _ _ _
  | [a, b, c], _ => exact reach3 _ _ _ _ _ _ _ _ _ _ _ _ _ _ _ _ _ _ _ _ _ _
  | [a, b, c, d], _ => exact reach4 _ _ _ _ _ _ _ _ _ _ _ _ _ _ _ _ _ _ _ _ _ _ _ _ _ _ _ _
  | [a, b, c, d, e], _ => exact reach5 _ _ _ _ _ _ _ _ _ _ _ _ _ _ _ _ _ _ _ _ _ _ _ _ _ _ _ _ _ _ _ _ _ _
  | _ :: _ :: _ :: _ :: _ :: _ :: _, h => exact absurd h (by simp)
end

section
-- a def called within a walk, at any depth
local macro_rules | `(tactic| walk_at "call ref") => `(tactic| (k_here; refine wpAny_call ?_; k_dflt (refine' code_def ?k1 ?k2 ?k3 ?k4 ?k5 ?kA ?kF ?kK ?k6 ?k7 ?k8 ?k9 ?kB ?_ ?c2 ?c3 ?c4 ?c5; ((case kA => exact rfl); (case kF => exact rfl); (case kK => first | exact rfl | assumption); (case k1 => k_asm); (case k2 => k_asm); (case k3 => k_asm); (case k4 => k_asm); (case k5 => k_asm); (case k6 => k_is); (case k7 => k_is); (case k8 => ktr_room); (case k9 => exact BindsTo.of_eq rfl); (case c5 => decide); (case kB => exact locs rfl); (case c2 => exact rfl); (case c3 => exact rfl); (case c4 => exact rfl); k_whole); intro g' L' h' FG' F' N' B' X' T'; (try dsimp only); (try k_lift B'); (try k_fold))))
-- the def that a contract speaks of: entered, its ground told
local macro_rules | `(tactic| cell_enter) => `(tactic| (refine' code_keep ?k1 ?k2 ?k3 ?k4 ?k5 ?kA ?kF ?kK ?k6 ?k7 ?k8 ?k9 ?kB ?_ ?c2 ?c3 ?c4 ?c5; ((case kA => exact rfl); (case kF => exact rfl); (case kK => first | exact rfl | assumption); (case k1 => k_asm); (case k2 => k_asm); (case k3 => k_asm); (case k4 => k_asm); (case k5 => k_asm); (case k6 => k_is); (case k7 => k_is); (case k8 => ktr_room); (case k9 => exact BindsTo.of_eq rfl); (case c5 => decide); (case kB => exact locs rfl); (case c2 => exact rfl); (case c3 => exact rfl); (case c4 => exact rfl); k_whole); intro g' L' h' GK' l1 FG' F' N' B' X' T'; (try k_lt l1); (try dsimp only); (try k_lift B'); (try k_fold)))
-- what a contract's end says of all else
local macro_rules | `(tactic| ktr_rel) => `(tactic| ((rename Keeps _ _ _ => gK); exact fun b o e n => Fr.keep (by assumption) b o (gK b o e n)))
-- the walk up to a loop, or to a call that a contract serves
local macro_rules | `(tactic| ktr_unf) => `(tactic| repeat' (
  (fail_if_success (with_reducible show wpAny _ _ (exec (Stmt.For _ _ _ _ _) _) _ _ _));
  (fail_if_success (with_reducible show wpAny _ _ (exec (Stmt.While _ _ _ _) _) _ _ _));
  (fail_if_success (with_reducible show wpAny _ _ (pyIter _) _ _ _));
  (fail_if_success (with_reducible show wpAny _ _ (call (Value.ref 21) _) _ _ _));
  (fail_if_success (with_reducible show wpAny _ _ (call (Value.ref 28) _) _ _ _));
  (fail_if_success (with_reducible show wpAny _ _ (call (Value.ref 89) _) _ _ _));
  first | (k_unfold; (try dsimp only)) | (k_end; wrow_close) | walk1 | (dsimp only; walk1) | (leave1; walk_say "STEP leave1"; try dsimp only) | fail "no step"))

structure TS where
  reach : Int
  t1 : Tok
  passed : Int
  t2 : Tok
  hi : List Value
  hn : Nat
  ti : List Value
  tn : Nat
structure WS where
  passed : Int
  t2 : Tok
  hi : List Value
  hn : Nat
def TInv (sts : List PP) (start : Int) (i : Nat) (c : TS) : Prop := ∃ (k : Nat) (pre xs : List Int), c.passed = (k : Int) ∧ IntsAre c.hi xs ∧ IntsAre c.ti (pre ++ [c.reach]) ∧ GInv sts start i k c.reach pre xs
def WInv (sts : List PP) (start : Int) (i : Nat) (reach : Int) (pre : List Int) (c : WS) : Prop := ∃ (k : Nat) (xs : List Int), c.passed = (k : Int) ∧ IntsAre c.hi xs ∧ GInv sts start i k reach pre xs
/-- behind the inner loop -/
def WExit (sts : List PP) (start : Int) (i : Nat) (reach : Int) (pre : List Int) (c : WS) : Prop := ∃ (k : Nat) (xs : List Int), c.passed = (k : Int) ∧ IntsAre c.hi xs ∧ GInv sts start i k reach pre xs ∧ ∀ q ∈ sts.drop k, reach < q.1
theorem told {w mean mg mb} (H D b0 b1 b2 b3 b4 : Addr) (p0 h0 p1 h1 p2 h2 p3 h3 p4 h4 r : Int) (t0 u0 t1 u1 t2 u2 t3 u3 t4 u4 tr : Tok) (n0 n k0 k1 k2 k3 k4 : Nat) (ne : @Ne Nat H D ∧ @Ne Nat H b0 ∧ @Ne Nat H b1 ∧ @Ne Nat H b2 ∧ @Ne Nat H b3 ∧ @Ne Nat H b4)
    (hs : ([(p0, h0), (p1, h1), (p2, h2), (p3, h3), (p4, h4)] : List PP).Pairwise fun a b => a.1 ≤ b.1) (hnn : ∀ q ∈ ([(p0, h0), (p1, h1), (p2, h2), (p3, h3), (p4, h4)] : List PP), 0 ≤ q.2) :
    Does w mean mg mb 75 [.ref D, .int r tr, .ref H] 6 [(H, W.listOf #[] n0), (D, W.listOf #[.ref b0, .ref b1, .ref b2, .ref b3, .ref b4] n), (b0, tup p0 h0 t0 u0 k0), (b1, tup p1 h1 t1 u1 k1), (b2, tup p2 h2 t2 u2 k2), (b3, tup p3 h3 t3 u3 k3), (b4, tup p4 h4 t4 u4 k4)] (fun v nw => ∃ TL ti tn n' told, v = .ref TL ∧ IntsAre ti told ∧ Best [(p0, h0), (p1, h1), (p2, h2), (p3, h3), (p4, h4)] r told ∧ told.length ≤ 6 ∧ nw = [(TL, W.listOf (List.toArray ti) tn), (H, W.listOf #[] n'), (D, W.listOf #[.ref b0, .ref b1, .ref b2, .ref b3, .ref b4] n), (b0, tup p0 h0 t0 u0 k0), (b1, tup p1 h1 t1 u1 k1), (b2, tup p2 h2 t2 u2 k2), (b3, tup p3 h3 t3 u3 k3), (b4, tup p4 h4 t4 u4 k4)]) := by
  unfold Does
  k_fill
  w_top off
  intro dp un gd cn cs a ccd cl outer A₀ base h₀ L m s Q E B F X N T hk hdp hun hret
  refine wpAny_call ?_
  k_dflt cell_enter
  ktr_unf
  rename_i g1 L1 hA GK FG B1 X1 T1 l1 hB TL hC l2 hD hE lF lN
  with_unfolding_all refine' For_invVF lF ?k1 ?k2 ?_
  case k1 => exact rfl
  case k2 => exact rfl
  ktr_unf
  rename Fr _ _ _ _ => lF
  rename News _ _ _ _ => lN
  refine' range_turns (n := 6) (σ := TS) (fun c => [(TL, W.listOf c.ti.toArray c.tn), (H, W.listOf c.hi.toArray c.hn), (D, W.listOf #[.ref b0, .ref b1, .ref b2, .ref b3, .ref b4] n), (b0, tup p0 h0 t0 u0 k0), (b1, tup p1 h1 t1 u1 k1), (b2, tup p2 h2 t2 u2 k2), (b3, tup p3 h3 t3 u3 k3), (b4, tup p4 h4 t4 u4 k4)]) (fun c => [(Str.ofString "reach", .int c.reach c.t1), (Str.ofString "passed", .int c.passed c.t2)]) [] (TInv [(p0, h0), (p1, h1), (p2, h2), (p3, h3), (p4, h4)] r) ⟨_, _, _, _, [], _, [_], _⟩ rfl ?hr ?hs ?hn lF lN ?ha ?hk ?h0 ?turn ?done
  case hr => assumption
  case hs => rfl
  case hn => rfl
  case ha => intro c; rfl
  case hk => kst_all
  case h0 => exact ⟨0, [], [], rfl, .nil, .cons _ _ .nil, GInv.first⟩
  case done =>
    rintro c u h tk ⟨k, pre, xs, _, _, _, g⟩ F' N'
    exact g.never.elim
  case turn =>
    clear lF lN
    rintro It i ⟨reach, tR, passed, tP, hi, hn, ti, tn⟩ u t h tk hi6 ⟨k, pre, xs, hp, hI, hT, g⟩ low lF lN
    dsimp only at hp hI hT g low lF lN
    replace lF : Fr g1 L1 h _ := lF
    replace lN : News g1 L1 h _ := lN
    k_lt low
    ktr_unf
    refine' while_cut (σ := WS) (fun c : WS => [(It, itR (0 + ((i + 1 : Nat) : Int)) (((6 : Nat) : Int) - ((i + 1 : Nat) : Int))), (TL, W.listOf ti.toArray tn), (H, W.listOf c.hi.toArray c.hn), (D, W.listOf #[.ref b0, .ref b1, .ref b2, .ref b3, .ref b4] n), (b0, tup p0 h0 t0 u0 k0), (b1, tup p1 h1 t1 u1 k1), (b2, tup p2 h2 t2 u2 k2), (b3, tup p3 h3 t3 u3 k3), (b4, tup p4 h4 t4 u4 k4)]) (fun c : WS => [(Str.ofString "passed", .int c.passed c.t2)]) [] (WInv [(p0, h0), (p1, h1), (p2, h2), (p3, h3), (p4, h4)] r i reach pre) (fun c => 5 - c.passed.toNat) (WExit [(p0, h0), (p1, h1), (p2, h2), (p3, h3), (p4, h4)] r i reach pre) ⟨passed, tP, hi, hn⟩ lF lN ?wk ?wp ?wturn ?after
    case wk => kst_all
    case wp => exact ⟨k, xs, hp, hI, g⟩
    case wturn =>
      clear lF lN hp hI g k xs
      rintro ⟨passed, tP, hi, hn⟩ u h tk ⟨k, xs, hp, hI, g⟩ lF lN
      dsimp only at hp hI g lF lN
      have hlen := g.len
      obtain ⟨rfl, rfl⟩ | ⟨rfl, rfl⟩ | ⟨rfl, rfl⟩ | ⟨rfl, rfl⟩ | ⟨rfl, rfl⟩ | ⟨rfl, rfl⟩ : (k = 0 ∧ passed = 0) ∨ (k = 1 ∧ passed = 1) ∨ (k = 2 ∧ passed = 2) ∨ (k = 3 ∧ passed = 3) ∨ (k = 4 ∧ passed = 4) ∨ (k = 5 ∧ passed = 5) := by omega
      iterate 5 (
        rotate_left
      )
      · ktr_unf
        refine' WxOut.intro ⟨5, tP, hi, hn⟩ ⟨5, xs, rfl, hI, g, by simp⟩ ?f5 ?n5
        case f5 => k_asm
        case n5 => k_asm
      all_goals (
        ktr_unf
        · refine' Does.turn (push_ok H xs hi _ _ _ hI g.1 (by omega)) ?pB ?pF ?pX ?pN ?pT rfl ?pd ?pu ?pU ?ret
          case pB => k_asm
          case pF => k_asm
          case pX => k_asm
          case pN => k_asm
          case pT => k_asm
          case pd => ktr_room
          case pu => ktr_units
          case pU => k_updF
          case ret =>
            rintro _ _ h' tk' ⟨rfl, its, n', ys, rfl, hI', hH', hP'⟩ F' N'
            (try dsimp only at N')
            ktr_unf
            refine' ksw_end ⟨_, _, its, n'⟩ ?eF ?eN ?en trivial ?ek ?er ?ep ?em
            case eF => k_asm
            case eN => k_asm
            case en => exact fun _ h => h
            case ek => kst_all
            case er =>
              intro z h2 _
              have hz := h2 _ (.head _)
              exact (if_neg hz).trans (kst_skip (fun p hp => by rw [List.mem_singleton.mp hp]; exact hz))
            case ep => exact ⟨_, ys, rfl, hI', g.push (by omega) rfl (by omega) hnn hH' hP'⟩
            case em => dsimp only; omega
        · refine' WxOut.intro ⟨_, tP, hi, hn⟩ ⟨_, xs, rfl, hI, g, exit_of hs rfl (by simp only; omega)⟩ ?fx ?nx
          case fx => k_asm
          case nx => k_asm)
    case after =>
      clear lF lN hp hI g k xs
      rintro ⟨passed', tP', hi', hn'⟩ u' h' tk' ⟨k, xs, hp, hI, g, hx⟩ lF lN
      dsimp only at hp hI g lF lN
      have hlen := g.len
      have hTl : ti.length = i + 1 := by rw [hT.length, List.length_append, g.2.2.1]; rfl
      ktr_unf
      rotate_left
      · have hx0 : xs = [] := by
          apply List.length_eq_zero_iff.mp
          omega
        subst hx0
        cases hI
        dsimp only [RtPost]
        ktr_unf
        refine' hret _ [(TL, W.listOf ti.toArray tn), (H, W.listOf #[] hn'), (D, W.listOf #[.ref b0, .ref b1, .ref b2, .ref b3, .ref b4] n), (b0, tup p0 h0 t0 u0 k0), (b1, tup p1 h1 t1 u1 k1), (b2, tup p2 h2 t2 u2 k2), (b3, tup p3 h3 t3 u3 k3), (b4, tup p4 h4 t4 u4 k4)] _ _ ?post ?f ?n ?k
        case f => k_asm
        case n => first | k_asm | (refine' cb_drop ?cbN ?cbS; (case cbN => assumption); (case cbS => kcj_all))
        case k => ktr_rel
        case post => exact ⟨TL, ti, tn, hn', _, rfl, hT, g.stop hx, by rw [← hT.length, hTl]; omega, rfl⟩
      · have hne : xs ≠ [] := by
          intro e
          have := congrArg List.length e
          simp only [List.length_nil] at this
          omega
        refine' Does.turn (pop_ok H xs hi' _ hI g.1 hne) ?pB ?pF ?pX ?pN ?pT rfl ?pd ?pu ?pU ?ret
        case pB => k_asm
        case pF => k_asm
        case pX => k_asm
        case pN => k_asm
        case pT => k_asm
        case pd => ktr_room
        case pu => ktr_units
        case pU => k_updF
        case ret =>
          rintro _ _ hh2 tk2 ⟨z, tz, its, n', ys, rfl, rfl, hI', hH', hP', hz'⟩ F2 N2
          (try dsimp only at N2)
          ktr_unf
          rename News _ _ _ _ => nE
          simp only [List.push_toArray] at nE
          dsimp only [RtPost]
          refine' RtEnd.intro ⟨?rr, ?rt, _, _, its, n', ti ++ [.int ?rr ?rt], tn + 1⟩ ?eF ?eN ?en ?ek ?er ?ep
          case eF => k_asm
          case eN => exact nE
          case ek => kst_all
          case en => exact fun _ h => h
          case er =>
            intro y hy h2 _
            have hr := h2 _ (.head _)
            have hq := h2 _ (.tail _ (.head _))
            refine (if_neg hr).trans ((kst_skip (fun p hp => by rw [List.mem_singleton.mp hp]; exact hq)).trans ((if_neg hy).trans (kst_skip fun p hp => ?_)))
            rcases List.mem_cons.mp hp with rfl | hp
            · exact hr
            · rw [List.mem_singleton.mp hp]; exact hq
          case ep => exact ⟨k, pre ++ [reach], ys, hp, hI', hT.append (.cons _ _ .nil), g.pop hx hH' hP' hz'⟩
end

section
-- a def called within a walk, at any depth
local macro_rules | `(tactic| walk_at "call ref") => `(tactic| (k_here; refine wpAny_call ?_; k_dflt (refine' code_def ?k1 ?k2 ?k3 ?k4 ?k5 ?kA ?kF ?kK ?k6 ?k7 ?k8 ?k9 ?kB ?_ ?c2 ?c3 ?c4 ?c5; ((case kA => exact rfl); (case kF => exact rfl); (case kK => first | exact rfl | assumption); (case k1 => k_asm); (case k2 => k_asm); (case k3 => k_asm); (case k4 => k_asm); (case k5 => k_asm); (case k6 => k_is); (case k7 => k_is); (case k8 => ktr_room); (case k9 => exact BindsTo.of_eq rfl); (case c5 => decide); (case kB => exact locs rfl); (case c2 => exact rfl); (case c3 => exact rfl); (case c4 => exact rfl); k_whole); intro g' L' h' FG' F' N' B' X' T'; (try dsimp only); (try k_lift B'); (try k_fold))))
-- the def that a contract speaks of: entered, its ground told
local macro_rules | `(tactic| cell_enter) => `(tactic| (refine' code_keep ?k1 ?k2 ?k3 ?k4 ?k5 ?kA ?kF ?kK ?k6 ?k7 ?k8 ?k9 ?kB ?_ ?c2 ?c3 ?c4 ?c5; ((case kA => exact rfl); (case kF => exact rfl); (case kK => first | exact rfl | assumption); (case k1 => k_asm); (case k2 => k_asm); (case k3 => k_asm); (case k4 => k_asm); (case k5 => k_asm); (case k6 => k_is); (case k7 => k_is); (case k8 => ktr_room); (case k9 => exact BindsTo.of_eq rfl); (case c5 => decide); (case kB => exact locs rfl); (case c2 => exact rfl); (case c3 => exact rfl); (case c4 => exact rfl); k_whole); intro g' L' h' GK' l1 FG' F' N' B' X' T'; (try k_lt l1); (try dsimp only); (try k_lift B'); (try k_fold)))
-- what a contract's end says of all else
local macro_rules | `(tactic| ktr_rel) => `(tactic| ((rename Keeps _ _ _ => gK); exact fun b o e n => Fr.keep (by assumption) b o (gK b o e n)))
-- the walk up to a loop, a block, or a call that a contract serves
local macro_rules | `(tactic| ktr_unf) => `(tactic| repeat' (
  (fail_if_success (with_reducible show wpAny _ _ (exec (Stmt.For _ _ _ _ _) _) _ _ _));
  (fail_if_success (with_reducible show wpAny _ _ (exec (Stmt.While _ _ _ _) _) _ _ _));
  (fail_if_success (with_reducible show wpAny _ _ (exec (Stmt.Assign _ (Expr.ListComp _ _ _ _) _) _) _ _ _));
  (fail_if_success (with_reducible show wpAny _ _ (eval (Expr.ListComp _ _ _ _) _) _ _ _));
  (fail_if_success (with_reducible show LCg.CompSrc _ _ _ _ _ _ _ _ _ _ _ _ _ _));
  (fail_if_success (with_reducible show LCt.CompSrcT _ _ _ _ _ _ _ _ _ _ _ _ _ _ _));
  (fail_if_success (with_reducible show wpAny _ _ (pyIter _) _ _ _));
  (fail_if_success (with_reducible show wpAny _ _ (call (Value.ref 21) _) _ _ _));
  (fail_if_success (with_reducible show wpAny _ _ (call (Value.ref 28) _) _ _ _));
  (fail_if_success (with_reducible show wpAny _ _ (call (Value.ref 89) _) _ _ _));
  first | (k_unfold; (try dsimp only)) | (k_end; wrow_close) | walk1 | (dsimp only; walk1) | (leave1; walk_say "STEP leave1"; try dsimp only) | fail "no step"))
-- a def whose names are captured: entered
local macro_rules | `(tactic| ktr_enter) => `(tactic| (refine' code_defC ?k1 ?k2 ?k3 ?k4 ?k5 ?kA ?kF ?kK ?k6 ?k7 ?k8 ?k9 ?kB ?kD ?_ ?c2 ?c3 ?c4; (case kA => exact rfl); (case kF => exact rfl); (case kK => first | exact rfl | assumption); (case k1 => k_asm); (case k2 => k_asm); (case k3 => k_asm); (case k4 => k_asm); (case k5 => k_asm); (case k6 => k_is); (case k7 => k_is); (case k8 => ktr_room); (case k9 => exact BindsTo.of_eq rfl); (case kB => exact rfl); (case kD => decide +kernel); (case c2 => exact rfl); (case c3 => exact rfl); (case c4 => exact rfl); k_whole; intro g' L' h' tk' cells' FG' F' N' Y' B' X' T' l1; (try k_lt l1); k_cells Y'; (try simp only [List.cons_append, List.nil_append] at N'); (try dsimp only); (try k_lift B'); (try k_fold)))
/-- the same, of the ledger alone -/
def DoesN (w : World) (mean : ExcName → Option Value) (mg mb : Str → Option Value) (f : Addr) (args : List Value) (room : Nat) (news : Led) (Post : Value → Led → Prop) : Prop :=
  ∀ (dp un : Nat) (gd : Option (List Code)) (cn : Str) (cs : Scope) (a : Addr) (ccd : Value) (cl : List (Str × Addr)) (outer : List Env) (A₀ : Around) (base h₀ : Heap) (L : Addr) (m : Str → Option Value) (s : Shared) (Q E : Value → Shared → Prop),
    Below A₀ base outer h₀ → Fr h₀ L s.heap m → (hd.heap_39 w.params).In h₀ → News h₀ L s.heap news → Top hd.view_39 (looseW hd.view_39 []) mean mg mb h₀ → cs.kind = .function →
    dp + room < recursionLimit → un + 8 * room < cLine →
    (∀ r news' h' tk', Post r news' → Fr h₀ L h' m → News h₀ L h' news' → Q r { s with heap := h', toks := tk' }) →
    wpAny (model PySem.Challenge.rw_mr0060_01.row.prog w) (ktrTop dp un gd cn cs L a ccd cl outer) (call (.ref f) args) Q E s
structure FS where
  oM : Obj
  x0 : List Value
  x1 : List Value
  x2 : List Value
  x3 : List Value
  x4 : List Value
  x5 : List Value
  e0 : Nat
  e1 : Nat
  e2 : Nat
  e3 : Nat
  e4 : Nat
  e5 : Nat
def FInv (sts : List PP) (r : Int) (i : Nat) (c : FS) : Prop := (∃ x, c.oM.data = .cell x) ∧ IntsAre c.x0 (rowF sts r i 0) ∧ IntsAre c.x1 (rowF sts r i 1) ∧ IntsAre c.x2 (rowF sts r i 2) ∧ IntsAre c.x3 (rowF sts r i 3) ∧ IntsAre c.x4 (rowF sts r i 4) ∧ IntsAre c.x5 (rowF sts r i 5)
theorem far {w mean mg mb} (TL H D b0 b1 b2 b3 b4 : Addr) (ti : List Value) (p0 h0 p1 h1 p2 h2 p3 h3 p4 h4 r : Int) (t0 u0 t1 u1 t2 u2 t3 u3 t4 u4 tr : Tok) (tn n0 n k0 k1 k2 k3 k4 : Nat) :
    DoesN w mean mg mb 94 [.ref D, .int r tr] 6 [(TL, W.listOf ti.toArray tn), (H, W.listOf #[] n0), (D, W.listOf #[.ref b0, .ref b1, .ref b2, .ref b3, .ref b4] n), (b0, tup p0 h0 t0 u0 k0), (b1, tup p1 h1 t1 u1 k1), (b2, tup p2 h2 t2 u2 k2), (b3, tup p3 h3 t3 u3 k3), (b4, tup p4 h4 t4 u4 k4)] (fun v nw => ∃ R ys rs, v = .ref R ∧ IntsAre ys rs ∧ Res [rowF [(p0, h0), (p1, h1), (p2, h2), (p3, h3), (p4, h4)] r 32 0, rowF [(p0, h0), (p1, h1), (p2, h2), (p3, h3), (p4, h4)] r 32 1, rowF [(p0, h0), (p1, h1), (p2, h2), (p3, h3), (p4, h4)] r 32 2, rowF [(p0, h0), (p1, h1), (p2, h2), (p3, h3), (p4, h4)] r 32 3, rowF [(p0, h0), (p1, h1), (p2, h2), (p3, h3), (p4, h4)] r 32 4, rowF [(p0, h0), (p1, h1), (p2, h2), (p3, h3), (p4, h4)] r 32 5] rs ∧ nw = [(R, LCg.lst ys), (TL, W.listOf ti.toArray tn), (H, W.listOf #[] n0)]) := by
  unfold DoesN
  k_fill
  w_top off
  intro dp un gd cn cs a ccd cl outer A₀ base h₀ L m s Q E B F X N T hk hdp hun hret
  refine wpAny_call ?_
  k_dflt ktr_enter
  rename_i g1 L1 hA tkA FG fA B1 X1 T1 l1 oM oS dM dS nA
  have dM' : oM.data = .cell none := dM
  have dS' : oS.data = .cell (some (.ref D)) := dS
  have fA' : Fr g1 L1 hA (fun y => if y = Str.ofString "start" then some (.int r tr) else none) := fA
  clear dM dS fA
  ktr_unf
  k_dflt (refine LCg.Assign_ListComp_U (F₀ := by k_asm) (by rfl) (by with_unfolding_all rfl) (by with_unfolding_all rfl) (by decide) (by rfl) (by decide) (by rfl) (by rfl) (by rfl) ?_)
  ktr_unf
  k_dflt (refine LCg.CompSrc.range (by rfl) (by k_asm) (by k_asm) (by assumption) (by first | decide | rfl) (by first | rfl | decide) (by first | size_fits | exact Nat.le_of_ble_eq_true rfl) ?_)
  intro gg
  refine rows_ind (n := 6) (fun _ => trivial) ?rfin ?rturn
  case rturn =>
    intro news ys v I oI C oC Dc m₂ h tk E' Q' F2 N2 k2 _ _ _
    walk1
    walk1
    k_dflt (refine newList_K F2 N2 ?_)
    intro l' h' F' N' low'
    exact k2 l' h' _ F' N' low'
  case rfin =>
    rintro as hl hR
    match as, hl with
    | [a5, a4, a3, a2, a1, a0], _ =>
      dsimp only [List.reverse_cons, List.reverse_nil, List.nil_append, List.cons_append, List.map_cons, List.map_nil, nilRow]
      obtain ⟨r5, q5, r4, q4, r3, q3, r2, q2, r1, q1, r0, q0, _⟩ := hR
      intro Dr hB tkB lF lN offD
      k_lt r0
      have c1 := ltN (q1 a0 (by simp))
      have c2 := ltN (q2 a1 (by simp))
      have c3 := ltN (q3 a2 (by simp))
      have c4 := ltN (q4 a3 (by simp))
      have c5 := ltN (q5 a4 (by simp))
      clear r1 r2 r3 r4 r5 q0 q1 q2 q3 q4 q5
      have hDm : @Ne Nat (L1 + 1 + 1) Dr := offD.2.2.2.2.2.2.1
      ktr_unf
      rename Fr _ _ _ _ => lF
      with_unfolding_all refine' For_turns lF ?_
      ktr_unf
      rename Fr _ _ _ _ => lF
      rename News _ _ _ _ => lN
      refine' range_turnsT (n := 32) (σ := FS) (fun c => [(Dr, LCg.lst [.ref a0, .ref a1, .ref a2, .ref a3, .ref a4, .ref a5]), (a5, W.listOf c.x5.toArray c.e5), (a4, W.listOf c.x4.toArray c.e4), (a3, W.listOf c.x3.toArray c.e3), (a2, W.listOf c.x2.toArray c.e2), (a1, W.listOf c.x1.toArray c.e1), (a0, W.listOf c.x0.toArray c.e0), (L1 + 1 + 1, c.oM), (L1 + 1, oS), (TL, W.listOf ti.toArray tn), (H, W.listOf #[] n0), (D, W.listOf #[.ref b0, .ref b1, .ref b2, .ref b3, .ref b4] n), (b0, tup p0 h0 t0 u0 k0), (b1, tup p1 h1 t1 u1 k1), (b2, tup p2 h2 t2 u2 k2), (b3, tup p3 h3 t3 u3 k3), (b4, tup p4 h4 t4 u4 k4)]) (fun _ => []) [Str.ofString "chosen", Str.ofString "reach"] (FInv [(p0, h0), (p1, h1), (p2, h2), (p3, h3), (p4, h4)] r) ⟨oM, [], [], [], [], [], [], 0, 0, 0, 0, 0, 0⟩ rfl ?hr ?hs ?hn lF lN ?ha ?hk ?h0 ?turn ?done
      case hr => assumption
      case hs => rfl
      case hn => rfl
      case ha => intro c; rfl
      case hk => intro p hp; cases hp
      case h0 => exact ⟨⟨_, dM'⟩, .nil, .nil, .nil, .nil, .nil, .nil⟩
      case turn =>
        clear lF lN
        rintro It i ⟨oM2, x0, x1, x2, x3, x4, x5, e0, e1, e2, e3, e4, e5⟩ u t h tk hi32 hc low lF lN
        dsimp only at low lF lN
        replace lF : Fr g1 L1 h _ := lF
        replace lN : News g1 L1 h _ := lN
        k_lt low
        obtain ⟨⟨oMx, hMx⟩, y0, y1, y2, y3, y4, y5⟩ := hc
        dsimp only at hMx y0 y1 y2 y3 y4 y5
        have z0 := Nat.le_trans (Nat.le_of_eq y0.length) rowF_len
        have z1 := Nat.le_trans (Nat.le_of_eq y1.length) rowF_len
        have z2 := Nat.le_trans (Nat.le_of_eq y2.length) rowF_len
        have z3 := Nat.le_trans (Nat.le_of_eq y3.length) rowF_len
        have z4 := Nat.le_trans (Nat.le_of_eq y4.length) rowF_len
        have z5 := Nat.le_trans (Nat.le_of_eq y5.length) rowF_len
        ktr_unf
        rename_i hS oN sF sN dN
        k_dflt (refine LCt.Assign_ListComp_T (F₀ := by k_asm) (by rfl) (by with_unfolding_all rfl) (by with_unfolding_all rfl) (by decide) (by rfl) (by decide) (by rfl) (by rfl) (by rfl) ?_)
        ktr_unf
        k_dflt (refine LCt.CompSrcT.range (by rfl) (by k_asm) (by k_asm) (by assumption) (by first | decide | rfl) (by first | rfl | decide) (by first | size_fits | exact Nat.le_of_ble_eq_true rfl) ?_)
        intro gg2
        refine compT_ind (n := 5) (fun j ys => ys = pick i 0 (([.ref b0, .ref b1, .ref b2, .ref b3, .ref b4] : List Value).take j)) trivial rfl ?cfin ?cturn
        case cturn =>
          intro j ys hj hys v I oI C oC Dc m₂ h2' tk2 E' hv hC hx F2 N2 off2
          obtain ⟨t9, rfl⟩ := hv
          obtain rfl | rfl | rfl | rfl | rfl : j = 0 ∨ j = 1 ∨ j = 2 ∨ j = 3 ∨ j = 4 := by omega
          all_goals (
            ktr_unf
            · refine' CtEnd.intro ?eF ?eN ?es ?er
              case eF => k_asm
              case eN => k_asm
              case es => exact fun _ h => h
              case er => rw [hys]; exact (pick_yes rfl rfl (decide_eq_true (by assumption))).symm
            · refine' CtEnd.intro ?eF ?eN ?es ?er
              case eF => k_asm
              case eN => k_asm
              case es => exact fun _ h => h
              case er => rw [hys]; exact (pick_no rfl rfl (decide_eq_false (by assumption))).symm)
        case cfin =>
          intro ys hys
          obtain ⟨es, hes⟩ : ∃ es, es = pick i 0 ([⟨b0, p0, h0, t0, u0, k0⟩, ⟨b1, p1, h1, t1, u1, k1⟩, ⟨b2, p2, h2, t2, u2, k2⟩, ⟨b3, p3, h3, t3, u3, k3⟩, ⟨b4, p4, h4, t4, u4, k4⟩] : List Stn) := ⟨_, rfl⟩
          have hyes : ys = es.map Stn.val := by rw [hys, hes, ← pick_map]; rfl
          have hel : es.length ≤ 5 := by rw [hes]; exact (pick_sub _ _ _).length_le
          have hesub : ∀ p ∈ es.map Stn.ent, p ∈ ([⟨b0, p0, h0, t0, u0, k0⟩, ⟨b1, p1, h1, t1, u1, k1⟩, ⟨b2, p2, h2, t2, u2, k2⟩, ⟨b3, p3, h3, t3, u3, k3⟩, ⟨b4, p4, h4, t4, u4, k4⟩] : List Stn).map Stn.ent := fun p hp => by
            obtain ⟨x, hx, rfl⟩ := List.mem_map.mp hp
            rw [hes] at hx
            exact List.mem_map_of_mem ((pick_sub _ _ _).subset hx)
          have hph : es.map Stn.ph = pick i 0 [(p0, h0), (p1, h1), (p2, h2), (p3, h3), (p4, h4)] := by rw [hes, ← pick_map]; rfl
          clear hys
          subst hyes
          unfold LCg.FinA
          intro CH hC2 tkC cF cN offC
          ktr_unf
          refine' Does.read (reach_ok CH es r tr _ hel) ?pB ?pF ?pX ?pN ?pT rfl ?pd ?pu ?ps ?ret
          case pB => k_asm
          case pF => exact cF
          case pX => k_asm
          case pN => exact cN
          case pT => k_asm
          case pd => ktr_room
          case pu => ktr_units
          case ps =>
            intro p hp
            rcases List.mem_cons.mp hp with rfl | hp
            · exact .head _
            · have hq := hesub p hp
              simp only [List.map_cons, List.map_nil, Stn.ent, List.mem_cons, List.not_mem_nil, or_false] at hq
              simp only [List.mem_cons]
              rcases hq with rfl | rfl | rfl | rfl | rfl <;> simp
          case ret =>
            clear cF cN
            intro v hR tkR hv cF cN
            have hre : reachF (pick i 0 [(p0, h0), (p1, h1), (p2, h2), (p3, h3), (p4, h4)]) r = reachF (es.map Stn.ph) r := by rw [hph]
            cases hres : reachF (es.map Stn.ph) r with
            | none =>
              rw [hres] at hv hre
              cases hv
              ktr_unf
              rename News _ _ _ _ => nE
              skip
              dsimp only [RuPost]
              refine' RuEnd.intro ⟨oN, x0, x1, x2, x3, x4, x5, e0, e1, e2, e3, e4, e5⟩ ?eF ?eN ?en ?ek ?er ?ei
              case eF => k_asm
              case eN => exact nE
              case en => exact fun p hp => .tail _ hp
              case ek => intro p hp; cases hp
              case er =>
                intro y _ hy
                have hyc : y ≠ Str.ofString "chosen" := fun e => by subst e; exact Bool.noConfusion ((show List.contains [Str.ofString "chosen", Str.ofString "reach"] (Str.ofString "chosen") = true from by decide).symm.trans hy)
                have hyr : y ≠ Str.ofString "reach" := fun e => by subst e; exact Bool.noConfusion ((show List.contains [Str.ofString "chosen", Str.ofString "reach"] (Str.ofString "reach") = true from by decide).symm.trans hy)
                exact (if_neg hyr).trans ((if_neg hyc).trans (if_neg (by rw [hy]; exact Bool.noConfusion)))
              case ei => exact ⟨⟨_, dN⟩, by rw [rowF_same (.inr hre)]; exact y0, by rw [rowF_same (.inr hre)]; exact y1, by rw [rowF_same (.inr hre)]; exact y2, by rw [rowF_same (.inr hre)]; exact y3, by rw [rowF_same (.inr hre)]; exact y4, by rw [rowF_same (.inr hre)]; exact y5⟩
            | some z =>
              rw [hres] at hv hre
              obtain ⟨tz, rfl⟩ := hv
              obtain rfl | ⟨s1, rfl⟩ | ⟨s1, s2, rfl⟩ | ⟨s1, s2, s3, rfl⟩ | ⟨s1, s2, s3, s4, rfl⟩ | ⟨s1, s2, s3, s4, s5, rfl⟩ := len5 hel
              · have hpl : (pick i 0 [(p0, h0), (p1, h1), (p2, h2), (p3, h3), (p4, h4)]).length = 0 := by rw [← hph]; rfl
                have nD : @Ne Nat a0 Dr := offD.2.2.2.2.2.1
                have nC : @Ne Nat a0 CH := offC.2.2.2.2.2.2.2.1
                replace cN : News g1 L1 hR ((CH, LCg.lst []) :: _) := cN
                ktr_unf
                rename News _ _ _ _ => nE
                simp only [List.push_toArray] at nE
                dsimp only [RuPost]
                refine' RuEnd.intro ⟨oN, x0 ++ [.int z tz], x1, x2, x3, x4, x5, e0 + 1, e1, e2, e3, e4, e5⟩ ?eF ?eN ?en ?ek ?er ?ei
                case eF => k_asm
                case eN => exact nE
                case en => exact fun p hp => .tail _ hp
                case ek => intro p hp; cases hp
                case er =>
                  intro y _ hy
                  have hyc : y ≠ Str.ofString "chosen" := fun e => by subst e; exact Bool.noConfusion ((show List.contains [Str.ofString "chosen", Str.ofString "reach"] (Str.ofString "chosen") = true from by decide).symm.trans hy)
                  have hyr : y ≠ Str.ofString "reach" := fun e => by subst e; exact Bool.noConfusion ((show List.contains [Str.ofString "chosen", Str.ofString "reach"] (Str.ofString "reach") = true from by decide).symm.trans hy)
                  exact (if_neg hyr).trans ((if_neg hyc).trans (if_neg (by rw [hy]; exact Bool.noConfusion)))
                case ei => exact ⟨⟨_, dN⟩, by rw [rowF_more hpl hre]; exact y0.append (.cons _ _ .nil), by rw [rowF_same (.inl (by rw [hpl]; decide))]; exact y1, by rw [rowF_same (.inl (by rw [hpl]; decide))]; exact y2, by rw [rowF_same (.inl (by rw [hpl]; decide))]; exact y3, by rw [rowF_same (.inl (by rw [hpl]; decide))]; exact y4, by rw [rowF_same (.inl (by rw [hpl]; decide))]; exact y5⟩
              · have hpl : (pick i 0 [(p0, h0), (p1, h1), (p2, h2), (p3, h3), (p4, h4)]).length = 1 := by rw [← hph]; rfl
                have nD : @Ne Nat a1 Dr := offD.2.2.2.2.1
                have nC : @Ne Nat a1 CH := offC.2.2.2.2.2.2.1
                replace cN : News g1 L1 hR ((CH, LCg.lst [.ref s1.b]) :: _) := cN
                ktr_unf
                rename News _ _ _ _ => nE
                simp only [List.push_toArray] at nE
                dsimp only [RuPost]
                refine' RuEnd.intro ⟨oN, x0, x1 ++ [.int z tz], x2, x3, x4, x5, e0, e1 + 1, e2, e3, e4, e5⟩ ?eF ?eN ?en ?ek ?er ?ei
                case eF => k_asm
                case eN => exact nE
                case en => exact fun p hp => .tail _ hp
                case ek => intro p hp; cases hp
                case er =>
                  intro y _ hy
                  have hyc : y ≠ Str.ofString "chosen" := fun e => by subst e; exact Bool.noConfusion ((show List.contains [Str.ofString "chosen", Str.ofString "reach"] (Str.ofString "chosen") = true from by decide).symm.trans hy)
                  have hyr : y ≠ Str.ofString "reach" := fun e => by subst e; exact Bool.noConfusion ((show List.contains [Str.ofString "chosen", Str.ofString "reach"] (Str.ofString "reach") = true from by decide).symm.trans hy)
                  exact (if_neg hyr).trans ((if_neg hyc).trans (if_neg (by rw [hy]; exact Bool.noConfusion)))
                case ei => exact ⟨⟨_, dN⟩, by rw [rowF_same (.inl (by rw [hpl]; decide))]; exact y0, by rw [rowF_more hpl hre]; exact y1.append (.cons _ _ .nil), by rw [rowF_same (.inl (by rw [hpl]; decide))]; exact y2, by rw [rowF_same (.inl (by rw [hpl]; decide))]; exact y3, by rw [rowF_same (.inl (by rw [hpl]; decide))]; exact y4, by rw [rowF_same (.inl (by rw [hpl]; decide))]; exact y5⟩
              · have hpl : (pick i 0 [(p0, h0), (p1, h1), (p2, h2), (p3, h3), (p4, h4)]).length = 2 := by rw [← hph]; rfl
                have nD : @Ne Nat a2 Dr := offD.2.2.2.1
                have nC : @Ne Nat a2 CH := offC.2.2.2.2.2.1
                replace cN : News g1 L1 hR ((CH, LCg.lst [.ref s1.b, .ref s2.b]) :: _) := cN
                ktr_unf
                rename News _ _ _ _ => nE
                simp only [List.push_toArray] at nE
                dsimp only [RuPost]
                refine' RuEnd.intro ⟨oN, x0, x1, x2 ++ [.int z tz], x3, x4, x5, e0, e1, e2 + 1, e3, e4, e5⟩ ?eF ?eN ?en ?ek ?er ?ei
                case eF => k_asm
                case eN => exact nE
                case en => exact fun p hp => .tail _ hp
                case ek => intro p hp; cases hp
                case er =>
                  intro y _ hy
                  have hyc : y ≠ Str.ofString "chosen" := fun e => by subst e; exact Bool.noConfusion ((show List.contains [Str.ofString "chosen", Str.ofString "reach"] (Str.ofString "chosen") = true from by decide).symm.trans hy)
                  have hyr : y ≠ Str.ofString "reach" := fun e => by subst e; exact Bool.noConfusion ((show List.contains [Str.ofString "chosen", Str.ofString "reach"] (Str.ofString "reach") = true from by decide).symm.trans hy)
                  exact (if_neg hyr).trans ((if_neg hyc).trans (if_neg (by rw [hy]; exact Bool.noConfusion)))
                case ei => exact ⟨⟨_, dN⟩, by rw [rowF_same (.inl (by rw [hpl]; decide))]; exact y0, by rw [rowF_same (.inl (by rw [hpl]; decide))]; exact y1, by rw [rowF_more hpl hre]; exact y2.append (.cons _ _ .nil), by rw [rowF_same (.inl (by rw [hpl]; decide))]; exact y3, by rw [rowF_same (.inl (by rw [hpl]; decide))]; exact y4, by rw [rowF_same (.inl (by rw [hpl]; decide))]; exact y5⟩
              · have hpl : (pick i 0 [(p0, h0), (p1, h1), (p2, h2), (p3, h3), (p4, h4)]).length = 3 := by rw [← hph]; rfl
                have nD : @Ne Nat a3 Dr := offD.2.2.1
                have nC : @Ne Nat a3 CH := offC.2.2.2.2.1
                replace cN : News g1 L1 hR ((CH, LCg.lst [.ref s1.b, .ref s2.b, .ref s3.b]) :: _) := cN
                ktr_unf
                rename News _ _ _ _ => nE
                simp only [List.push_toArray] at nE
                dsimp only [RuPost]
                refine' RuEnd.intro ⟨oN, x0, x1, x2, x3 ++ [.int z tz], x4, x5, e0, e1, e2, e3 + 1, e4, e5⟩ ?eF ?eN ?en ?ek ?er ?ei
                case eF => k_asm
                case eN => exact nE
                case en => exact fun p hp => .tail _ hp
                case ek => intro p hp; cases hp
                case er =>
                  intro y _ hy
                  have hyc : y ≠ Str.ofString "chosen" := fun e => by subst e; exact Bool.noConfusion ((show List.contains [Str.ofString "chosen", Str.ofString "reach"] (Str.ofString "chosen") = true from by decide).symm.trans hy)
                  have hyr : y ≠ Str.ofString "reach" := fun e => by subst e; exact Bool.noConfusion ((show List.contains [Str.ofString "chosen", Str.ofString "reach"] (Str.ofString "reach") = true from by decide).symm.trans hy)
                  exact (if_neg hyr).trans ((if_neg hyc).trans (if_neg (by rw [hy]; exact Bool.noConfusion)))
                case ei => exact ⟨⟨_, dN⟩, by rw [rowF_same (.inl (by rw [hpl]; decide))]; exact y0, by rw [rowF_same (.inl (by rw [hpl]; decide))]; exact y1, by rw [rowF_same (.inl (by rw [hpl]; decide))]; exact y2, by rw [rowF_more hpl hre]; exact y3.append (.cons _ _ .nil), by rw [rowF_same (.inl (by rw [hpl]; decide))]; exact y4, by rw [rowF_same (.inl (by rw [hpl]; decide))]; exact y5⟩
              · have hpl : (pick i 0 [(p0, h0), (p1, h1), (p2, h2), (p3, h3), (p4, h4)]).length = 4 := by rw [← hph]; rfl
                have nD : @Ne Nat a4 Dr := offD.2.1
                have nC : @Ne Nat a4 CH := offC.2.2.2.1
                replace cN : News g1 L1 hR ((CH, LCg.lst [.ref s1.b, .ref s2.b, .ref s3.b, .ref s4.b]) :: _) := cN
                ktr_unf
                rename News _ _ _ _ => nE
                simp only [List.push_toArray] at nE
                dsimp only [RuPost]
                refine' RuEnd.intro ⟨oN, x0, x1, x2, x3, x4 ++ [.int z tz], x5, e0, e1, e2, e3, e4 + 1, e5⟩ ?eF ?eN ?en ?ek ?er ?ei
                case eF => k_asm
                case eN => exact nE
                case en => exact fun p hp => .tail _ hp
                case ek => intro p hp; cases hp
                case er =>
                  intro y _ hy
                  have hyc : y ≠ Str.ofString "chosen" := fun e => by subst e; exact Bool.noConfusion ((show List.contains [Str.ofString "chosen", Str.ofString "reach"] (Str.ofString "chosen") = true from by decide).symm.trans hy)
                  have hyr : y ≠ Str.ofString "reach" := fun e => by subst e; exact Bool.noConfusion ((show List.contains [Str.ofString "chosen", Str.ofString "reach"] (Str.ofString "reach") = true from by decide).symm.trans hy)
                  exact (if_neg hyr).trans ((if_neg hyc).trans (if_neg (by rw [hy]; exact Bool.noConfusion)))
                case ei => exact ⟨⟨_, dN⟩, by rw [rowF_same (.inl (by rw [hpl]; decide))]; exact y0, by rw [rowF_same (.inl (by rw [hpl]; decide))]; exact y1, by rw [rowF_same (.inl (by rw [hpl]; decide))]; exact y2, by rw [rowF_same (.inl (by rw [hpl]; decide))]; exact y3, by rw [rowF_more hpl hre]; exact y4.append (.cons _ _ .nil), by rw [rowF_same (.inl (by rw [hpl]; decide))]; exact y5⟩
              · have hpl : (pick i 0 [(p0, h0), (p1, h1), (p2, h2), (p3, h3), (p4, h4)]).length = 5 := by rw [← hph]; rfl
                have nD : @Ne Nat a5 Dr := offD.1
                have nC : @Ne Nat a5 CH := offC.2.2.1
                replace cN : News g1 L1 hR ((CH, LCg.lst [.ref s1.b, .ref s2.b, .ref s3.b, .ref s4.b, .ref s5.b]) :: _) := cN
                ktr_unf
                rename News _ _ _ _ => nE
                simp only [List.push_toArray] at nE
                dsimp only [RuPost]
                refine' RuEnd.intro ⟨oN, x0, x1, x2, x3, x4, x5 ++ [.int z tz], e0, e1, e2, e3, e4, e5 + 1⟩ ?eF ?eN ?en ?ek ?er ?ei
                case eF => k_asm
                case eN => exact nE
                case en => exact fun p hp => .tail _ hp
                case ek => intro p hp; cases hp
                case er =>
                  intro y _ hy
                  have hyc : y ≠ Str.ofString "chosen" := fun e => by subst e; exact Bool.noConfusion ((show List.contains [Str.ofString "chosen", Str.ofString "reach"] (Str.ofString "chosen") = true from by decide).symm.trans hy)
                  have hyr : y ≠ Str.ofString "reach" := fun e => by subst e; exact Bool.noConfusion ((show List.contains [Str.ofString "chosen", Str.ofString "reach"] (Str.ofString "reach") = true from by decide).symm.trans hy)
                  exact (if_neg hyr).trans ((if_neg hyc).trans (if_neg (by rw [hy]; exact Bool.noConfusion)))
                case ei => exact ⟨⟨_, dN⟩, by rw [rowF_same (.inl (by rw [hpl]; decide))]; exact y0, by rw [rowF_same (.inl (by rw [hpl]; decide))]; exact y1, by rw [rowF_same (.inl (by rw [hpl]; decide))]; exact y2, by rw [rowF_same (.inl (by rw [hpl]; decide))]; exact y3, by rw [rowF_same (.inl (by rw [hpl]; decide))]; exact y4, by rw [rowF_more hpl hre]; exact y5.append (.cons _ _ .nil)⟩
      case done =>
        rintro ⟨oM2, x0, x1, x2, x3, x4, x5, e0, e1, e2, e3, e4, e5⟩ u h tk hc lF lN
        dsimp only at lF lN
        replace lF : Fr g1 L1 h _ := lF
        replace lN : News g1 L1 h _ := lN
        obtain ⟨_, y0, y1, y2, y3, y4, y5⟩ := hc
        dsimp only at y0 y1 y2 y3 y4 y5
        generalize hY0 : rowF [(p0, h0), (p1, h1), (p2, h2), (p3, h3), (p4, h4)] r 32 0 = Y0 at y0
        generalize hY1 : rowF [(p0, h0), (p1, h1), (p2, h2), (p3, h3), (p4, h4)] r 32 1 = Y1 at y1
        generalize hY2 : rowF [(p0, h0), (p1, h1), (p2, h2), (p3, h3), (p4, h4)] r 32 2 = Y2 at y2
        generalize hY3 : rowF [(p0, h0), (p1, h1), (p2, h2), (p3, h3), (p4, h4)] r 32 3 = Y3 at y3
        generalize hY4 : rowF [(p0, h0), (p1, h1), (p2, h2), (p3, h3), (p4, h4)] r 32 4 = Y4 at y4
        generalize hY5 : rowF [(p0, h0), (p1, h1), (p2, h2), (p3, h3), (p4, h4)] r 32 5 = Y5 at y5
        have z0 : Y0.length ≤ 32 := by rw [← hY0]; exact rowF_len
        have z1 : Y1.length ≤ 32 := by rw [← hY1]; exact rowF_len
        have z2 : Y2.length ≤ 32 := by rw [← hY2]; exact rowF_len
        have z3 : Y3.length ≤ 32 := by rw [← hY3]; exact rowF_len
        have z4 : Y4.length ≤ 32 := by rw [← hY4]; exact rowF_len
        have z5 : Y5.length ≤ 32 := by rw [← hY5]; exact rowF_len
        ktr_unf
        k_dflt (refine LCt.ListComp_T (F₀ := by k_asm) (by with_unfolding_all rfl) (by decide) (by rfl) (by decide) (by rfl) ?_)
        ktr_unf
        k_dflt (refine LCt.CompSrcT.ledger (by rfl) (by k_asm) (by k_asm) (by k_mem) (by exact Nat.le_of_ble_eq_true rfl) ?_)
        intro gg3
        refine compT_ind (n := 6) (fun j ys => ∃ rs, IntsAre ys rs ∧ Res (([Y0, Y1, Y2, Y3, Y4, Y5] : List (List Int)).take j) rs) ?hS ⟨[], .nil, rfl⟩ ?cfin ?cturn
        case hS => exact Or.inr ⟨_, by k_mem, rfl, _, rfl⟩
        case cturn =>
          intro j ys hj hys v I oI C oC Dc m₂ h2' tk2 E' hv hC hx F2 N2 off2
          obtain rfl | rfl | rfl | rfl | rfl | rfl : j = 0 ∨ j = 1 ∨ j = 2 ∨ j = 3 ∨ j = 4 ∨ j = 5 := by omega
          · obtain rfl : v = .ref a0 := (Option.some.inj hv).symm
            obtain ⟨rs, hrs, hRs⟩ := hys
            ktr_unf
            · refine' CtEnd.intro ?eF ?eN ?es ?er
              case eF => k_asm
              case eN => k_asm
              case es => exact fun _ h => h
              case er => exact ⟨_, hrs.append (.cons _ _ .nil), hRs.yes ⟨by assumption, by assumption⟩⟩
            · refine' CtEnd.intro ?eF ?eN ?es ?er
              case eF => k_asm
              case eN => k_asm
              case es => exact fun _ h => h
              case er => exact ⟨rs, hrs, hRs.no (List.length_eq_zero_iff.mp (by omega))⟩
          · obtain rfl : v = .ref a1 := (Option.some.inj hv).symm
            obtain ⟨rs, hrs, hRs⟩ := hys
            ktr_unf
            · refine' CtEnd.intro ?eF ?eN ?es ?er
              case eF => k_asm
              case eN => k_asm
              case es => exact fun _ h => h
              case er => exact ⟨_, hrs.append (.cons _ _ .nil), hRs.yes ⟨by assumption, by assumption⟩⟩
            · refine' CtEnd.intro ?eF ?eN ?es ?er
              case eF => k_asm
              case eN => k_asm
              case es => exact fun _ h => h
              case er => exact ⟨rs, hrs, hRs.no (List.length_eq_zero_iff.mp (by omega))⟩
          · obtain rfl : v = .ref a2 := (Option.some.inj hv).symm
            obtain ⟨rs, hrs, hRs⟩ := hys
            ktr_unf
            · refine' CtEnd.intro ?eF ?eN ?es ?er
              case eF => k_asm
              case eN => k_asm
              case es => exact fun _ h => h
              case er => exact ⟨_, hrs.append (.cons _ _ .nil), hRs.yes ⟨by assumption, by assumption⟩⟩
            · refine' CtEnd.intro ?eF ?eN ?es ?er
              case eF => k_asm
              case eN => k_asm
              case es => exact fun _ h => h
              case er => exact ⟨rs, hrs, hRs.no (List.length_eq_zero_iff.mp (by omega))⟩
          · obtain rfl : v = .ref a3 := (Option.some.inj hv).symm
            obtain ⟨rs, hrs, hRs⟩ := hys
            ktr_unf
            · refine' CtEnd.intro ?eF ?eN ?es ?er
              case eF => k_asm
              case eN => k_asm
              case es => exact fun _ h => h
              case er => exact ⟨_, hrs.append (.cons _ _ .nil), hRs.yes ⟨by assumption, by assumption⟩⟩
            · refine' CtEnd.intro ?eF ?eN ?es ?er
              case eF => k_asm
              case eN => k_asm
              case es => exact fun _ h => h
              case er => exact ⟨rs, hrs, hRs.no (List.length_eq_zero_iff.mp (by omega))⟩
          · obtain rfl : v = .ref a4 := (Option.some.inj hv).symm
            obtain ⟨rs, hrs, hRs⟩ := hys
            ktr_unf
            · refine' CtEnd.intro ?eF ?eN ?es ?er
              case eF => k_asm
              case eN => k_asm
              case es => exact fun _ h => h
              case er => exact ⟨_, hrs.append (.cons _ _ .nil), hRs.yes ⟨by assumption, by assumption⟩⟩
            · refine' CtEnd.intro ?eF ?eN ?es ?er
              case eF => k_asm
              case eN => k_asm
              case es => exact fun _ h => h
              case er => exact ⟨rs, hrs, hRs.no (List.length_eq_zero_iff.mp (by omega))⟩
          · obtain rfl : v = .ref a5 := (Option.some.inj hv).symm
            obtain ⟨rs, hrs, hRs⟩ := hys
            ktr_unf
            · refine' CtEnd.intro ?eF ?eN ?es ?er
              case eF => k_asm
              case eN => k_asm
              case es => exact fun _ h => h
              case er => exact ⟨_, hrs.append (.cons _ _ .nil), hRs.yes ⟨by assumption, by assumption⟩⟩
            · refine' CtEnd.intro ?eF ?eN ?es ?er
              case eF => k_asm
              case eN => k_asm
              case es => exact fun _ h => h
              case er => exact ⟨rs, hrs, hRs.no (List.length_eq_zero_iff.mp (by omega))⟩
        case cfin =>
          rintro ys ⟨rs, hrs, hRs⟩
          unfold LCg.FinE
          intro R hR2 tkR rF rN offR
          ktr_unf
          refine' hret _ [(R, LCg.lst ys), (TL, W.listOf ti.toArray tn), (H, W.listOf #[] n0)] _ _ ?post ?zF ?zN
          case zF => k_asm
          case zN => (refine' cb_drop ?cbN ?cbS; (case cbN => assumption); (case cbS => kcj_all))
          case post =>
            rw [hY0, hY1, hY2, hY3, hY4, hY5]
            exact ⟨R, ys, rs, rfl, hrs, hRs, rfl⟩
end

section
-- a def called within a walk, at any depth
local macro_rules | `(tactic| walk_at "call ref") => `(tactic| (k_here; refine wpAny_call ?_; k_dflt (refine' code_def ?k1 ?k2 ?k3 ?k4 ?k5 ?kA ?kF ?kK ?k6 ?k7 ?k8 ?k9 ?kB ?_ ?c2 ?c3 ?c4 ?c5; ((case kA => exact rfl); (case kF => exact rfl); (case kK => first | exact rfl | assumption); (case k1 => k_asm); (case k2 => k_asm); (case k3 => k_asm); (case k4 => k_asm); (case k5 => k_asm); (case k6 => k_is); (case k7 => k_is); (case k8 => ktr_room); (case k9 => exact BindsTo.of_eq rfl); (case c5 => decide); (case kB => exact locs rfl); (case c2 => exact rfl); (case c3 => exact rfl); (case c4 => exact rfl); k_whole); intro g' L' h' FG' F' N' B' X' T'; (try dsimp only); (try k_lift B'); (try k_fold))))
-- the def that a contract speaks of: entered, its ground told
local macro_rules | `(tactic| cell_enter) => `(tactic| (refine' code_keep ?k1 ?k2 ?k3 ?k4 ?k5 ?kA ?kF ?kK ?k6 ?k7 ?k8 ?k9 ?kB ?_ ?c2 ?c3 ?c4 ?c5; ((case kA => exact rfl); (case kF => exact rfl); (case kK => first | exact rfl | assumption); (case k1 => k_asm); (case k2 => k_asm); (case k3 => k_asm); (case k4 => k_asm); (case k5 => k_asm); (case k6 => k_is); (case k7 => k_is); (case k8 => ktr_room); (case k9 => exact BindsTo.of_eq rfl); (case c5 => decide); (case kB => exact locs rfl); (case c2 => exact rfl); (case c3 => exact rfl); (case c4 => exact rfl); k_whole); intro g' L' h' GK' l1 FG' F' N' B' X' T'; (try k_lt l1); (try dsimp only); (try k_lift B'); (try k_fold)))
-- what a contract's end says of all else
local macro_rules | `(tactic| ktr_rel) => `(tactic| ((rename Keeps _ _ _ => gK); exact fun b o e n => Fr.keep (by assumption) b o (gK b o e n)))
-- the walk up to a loop, a block, or a call that a contract serves
local macro_rules | `(tactic| ktr_unf) => `(tactic| repeat' (
  (fail_if_success (with_reducible show wpAny _ _ (exec (Stmt.For _ _ _ _ _) _) _ _ _));
  (fail_if_success (with_reducible show wpAny _ _ (exec (Stmt.While _ _ _ _) _) _ _ _));
  (fail_if_success (with_reducible show wpAny _ _ (exec (Stmt.Assign _ (Expr.ListComp _ _ _ _) _) _) _ _ _));
  (fail_if_success (with_reducible show wpAny _ _ (eval (Expr.ListComp _ _ _ _) _) _ _ _));
  (fail_if_success (with_reducible show LCg.CompSrc _ _ _ _ _ _ _ _ _ _ _ _ _ _));
  (fail_if_success (with_reducible show LCt.CompSrcT _ _ _ _ _ _ _ _ _ _ _ _ _ _ _));
  (fail_if_success (with_reducible show wpAny _ _ (pyIter _) _ _ _));
  (fail_if_success (with_reducible show wpAny _ _ (newTuple _) _ _ _));
  (fail_if_success (with_reducible show wpAny _ _ (call (Value.builtin "sorted") _) _ _ _));
  (fail_if_success (with_reducible show wpAny _ _ (call (Value.ref 21) _) _ _ _));
  (fail_if_success (with_reducible show wpAny _ _ (call (Value.ref 28) _) _ _ _));
  (fail_if_success (with_reducible show wpAny _ _ (call (Value.ref 89) _) _ _ _));
  first | (k_unfold; (try dsimp only)) | (k_end; wrow_close) | walk1 | (dsimp only; walk1) | (leave1; walk_say "STEP leave1"; try dsimp only) | fail "no step"))
-- a def whose names are captured: entered
local macro_rules | `(tactic| ktr_enter) => `(tactic| (refine' code_defC ?k1 ?k2 ?k3 ?k4 ?k5 ?kA ?kF ?kK ?k6 ?k7 ?k8 ?k9 ?kB ?kD ?_ ?c2 ?c3 ?c4; (case kA => exact rfl); (case kF => exact rfl); (case kK => first | exact rfl | assumption); (case k1 => k_asm); (case k2 => k_asm); (case k3 => k_asm); (case k4 => k_asm); (case k5 => k_asm); (case k6 => k_is); (case k7 => k_is); (case k8 => ktr_room); (case k9 => exact BindsTo.of_eq rfl); (case kB => exact rfl); (case kD => decide +kernel); (case c2 => exact rfl); (case c3 => exact rfl); (case c4 => exact rfl); k_whole; intro g' L' h' tk' cells' FG' F' N' Y' B' X' T' l1; (try k_lt l1); k_cells Y'; (try simp only [List.cons_append, List.nil_append] at N'); (try dsimp only); (try k_lift B'); (try k_fold)))
-- a slice of ints with a step
local macro_rules | `(tactic| walk_at "subscriptTail Name Slice ref ref") => `(tactic| (k_here; (with_reducible show wpAny _ _ (subscriptTail _ (PySem.Expr.Slice _ _ (some _) _) (Value.ref _) (Value.ref _)) _ _ _); k_dflt (refine' slice3_any ?F ?N ?l ?p ?q ?k ?o ?i ?_ ?s ?t ?z; (case F => k_asm); (case N => k_asm); (case l => kmk_list); (case p => kmk_part); (case q => kmk_part); (case k => kmk_part); (case o => decide); (case i => l_ints); (case s => with_unfolding_all rfl); (case t => kmk_pure); (case z => (rw [List.size_toArray, IntsAre.length (by assumption), PySem.sizeLine_eq]; omega))); intro D' ws' ms' h' F' N' l1 hI'; (try k_lt l1)))
-- an entry that a hypothesis names, behind a block's own three
local macro_rules | `(tactic| k_mem) => `(tactic| (refine List.Mem.tail _ (List.Mem.tail _ (List.Mem.tail _ ?_)); assumption))
theorem stations {w mean mg mb} (ns : List Int) (vs : List Value) (l : Addr) (hi : IntsAre vs ns) (hlen : ns.length ≤ 63) : ∀
    (dp un : Nat) (gd : Option (List Code)) (cn : Str) (cs : Scope) (a : Addr) (ccd : Value) (cl : List (Str × Addr)) (outer : List Env) (A₀ : Around) (base h₀ : Heap) (L : Addr) (m : Str → Option Value) (s : Shared) (Q E : Value → Shared → Prop)
    (_ : Below A₀ base outer h₀) (_ : Fr h₀ L s.heap m) (_ : (hd.heap_39 w.params).In h₀) (_ : News h₀ L s.heap []) (_ : Top hd.view_39 (looseW hd.view_39 []) mean mg mb h₀) (_ : cs.kind = .function)
    (_ : dp + 6 < recursionLimit) (_ : un + 8 * 6 < cLine) (_ : base.IsList l vs.toArray)
    (_ : ∀ D c (x0 x1 x2 x3 x4 : Stn) h' tk', ([x0.ph, x1.ph, x2.ph, x3.ph, x4.ph].Pairwise fun a b => a.1 ≤ b.1) → (∀ q ∈ [x0.ph, x1.ph, x2.ph, x3.ph, x4.ph], 0 ≤ q.2) → Fr h₀ L h' m → News h₀ L h' [(D, W.listOf #[x0.val, x1.val, x2.val, x3.val, x4.val] c), x0.ent, x1.ent, x2.ent, x3.ent, x4.ent] → Q (.ref D) { s with heap := h', toks := tk' }),
    wpAny (model PySem.Challenge.rw_mr0060_01.row.prog w) (ktrTop dp un gd cn cs L a ccd cl outer) (call (.ref 68) [.ref l]) Q E s := by
  k_fill
  w_top off
  intro dp un gd cn cs a ccd cl outer A₀ base h₀ L m s Q E B F X N T hk hdp hun hl hret
  refine wpAny_call ?_
  k_dflt ktr_enter
  rename_i g1 L1 hA tkA FG fA B1 X1 T1 l1 oB oF oS dB dF dS nA
  have dB' : oB.data = .cell none := dB
  have dF' : oF.data = .cell none := dF
  have dS' : oS.data = .cell (some (.ref l)) := dS
  have fA' : Fr g1 L1 hA (fun y => none) := fA
  clear dB dF dS fA
  ktr_unf
  k_dflt (refine LCg.Assign_ListComp_U (F₀ := by k_asm) (by rfl) (by with_unfolding_all rfl) (by with_unfolding_all rfl) (by decide) (by rfl) (by decide) (by rfl) (by rfl) (by rfl) ?_)
  ktr_unf
  k_dflt (refine LCg.CompSrc.range (by rfl) (by k_asm) (by k_asm) (by assumption) (by first | decide | rfl) (by first | rfl | decide) (by first | size_fits | exact Nat.le_of_ble_eq_true rfl) ?_)
  intro gg
  refine comp_ind (n := 5) (fun j ys => ∃ rs, IntsAre ys rs ∧ rs.length = j) trivial ⟨[], .nil, rfl⟩ ?cfin ?cturn
  case cturn =>
    intro j ys hj hys v I oI C oC Dc m₂ h2' tk2 E' hv hC hx F2 N2 off2
    obtain ⟨t9, rfl⟩ := hv
    obtain ⟨rs, hrs, hrl⟩ := hys
    all_goals (
      ktr_unf
      refine' CtEnd.intro ?eF ?eN ?es ?er
      case eF => k_asm
      case eN => k_asm
      case es => exact fun _ h => .tail _ h
      case er => exact ⟨_, hrs.append (.cons _ _ .nil), by simp [hrl]⟩)
  case cfin =>
    rintro ys ⟨rs, hrs, hrl⟩
    obtain ⟨T0, T1, T2, T3, T4, q0, q1, q2, q3, q4, rfl⟩ := ints5 hrs hrl
    unfold LCg.FinA
    intro TT hT tkT tF tN offT
    have hTB : @Ne Nat (L1 + 1 + 1 + 1) TT := offT.2.1
    ktr_unf
    rename_i hS1 tkS tS hS2 oB2 sF sN dB2
    k_dflt (refine LCg.ListComp_U (F₀ := by k_asm) (by with_unfolding_all rfl) (by decide) (by rfl) (by decide) (by rfl) ?_)
    ktr_unf
    k_dflt (refine LCg.CompSrc.ledger (by rfl) (by k_asm) (by k_asm) (by k_mem) (by exact Nat.le_of_ble_eq_true rfl) ?_)
    intro gg2
    refine made_ind (n := 5) (fun _ o => ∃ p h t u k, o = tup p h t u k ∧ 0 ≤ h ∧ h < 8) ?hS ?mfin ?mturn
    case hS => exact fun nw h => Or.inr ⟨_, h _ (by k_mem), rfl, _, rfl⟩
    case mturn =>
      intro nw zs v I oI C oC Dc m₂ h2' tk2 E' Q' hz hsub F2 N2 k2 hv hC hx
      have hmB : (L1 + 1 + 1 + 1, oB2) ∈ nw := hsub _ (by simp)
      have hj : zs.length = 0 ∨ zs.length = 1 ∨ zs.length = 2 ∨ zs.length = 3 ∨ zs.length = 4 := by omega
      obtain ⟨Tj, qj, rfl⟩ : ∃ T q, v = .int T q := by
        rcases hj with e | e | e | e | e <;> (rw [e] at hv; exact ⟨_, _, (Option.some.inj hv).symm⟩)
      clear hj hv
      ktr_unf
      k_dflt (refine' kup_newTuple ?mF ?mN ?_ ?mz; (case mF => k_asm); (case mN => k_asm); (case mz => exact Nat.le_of_ble_eq_true rfl))
      intro Da hDa aF aN alow
      exact k2 Da _ hDa _ ⟨_, _, _, _, _, rfl, Int.fmod_nonneg_of_pos _ (by decide), Int.fmod_lt_of_pos _ (by decide)⟩ aF aN alow
    case mfin =>
      intro es hel hR hO
      obtain ⟨f4, f3, f2, f1, f0, rfl⟩ := eq5 hel
      obtain ⟨⟨P4, H4, s4, r4, n4, e4, o4, g4⟩, ⟨P3, H3, s3, r3, n3, e3, o3, g3⟩, ⟨P2, H2, s2, r2, n2, e2, o2, g2⟩, ⟨P1, H1, s1, r1, n1, e1, o1, g1'⟩, ⟨P0, H0, s0, r0, n0, e0, o0, g0⟩, _⟩ := hO
      obtain ⟨a4, f4⟩ := f4
      obtain ⟨a3, f3⟩ := f3
      obtain ⟨a2, f2⟩ := f2
      obtain ⟨a1, f1⟩ := f1
      obtain ⟨a0, f0⟩ := f0
      dsimp only at e0 e1 e2 e3 e4
      subst e0 e1 e2 e3 e4
      intro LS hLS tkL lF lN offL
      ktr_unf
      replace lN : News g1 L1 hLS ((LS, LCg.lst [.ref a0, .ref a1, .ref a2, .ref a3, .ref a4]) :: (a4, tup P4 H4 s4 r4 n4) :: (a3, tup P3 H3 s3 r3 n3) :: (a2, tup P2 H2 s2 r2 n2) :: (a1, tup P1 H1 s1 r1 n1) :: (a0, tup P0 H0 s0 r0 n0) :: _) := lN
      have lN2 : News g1 L1 hLS [(LS, LCg.lst [.ref a0, .ref a1, .ref a2, .ref a3, .ref a4]), (a0, tup P0 H0 s0 r0 n0), (a1, tup P1 H1 s1 r1 n1), (a2, tup P2 H2 s2 r2 n2), (a3, tup P3 H3 s3 r3 n3), (a4, tup P4 H4 s4 r4 n4)] := cb_drop lN (by kcj_all)
      clear lN
      have get : ∀ i, i < 5 → ∃ x : Stn, (fun i => List.getD [Value.ref a0, .ref a1, .ref a2, .ref a3, .ref a4] i Value.none) i = x.val ∧ x.ent ∈ [(a0, tup P0 H0 s0 r0 n0), (a1, tup P1 H1 s1 r1 n1), (a2, tup P2 H2 s2 r2 n2), (a3, tup P3 H3 s3 r3 n3), (a4, tup P4 H4 s4 r4 n4)] ∧ 0 ≤ x.h ∧ x.h < 8 ∧ (fun i => List.getD [8 * P0 + H0, 8 * P1 + H1, 8 * P2 + H2, 8 * P3 + H3, 8 * P4 + H4] i 0) i = 8 * x.p + x.h := by
        intro i hi5
        obtain rfl | rfl | rfl | rfl | rfl : i = 0 ∨ i = 1 ∨ i = 2 ∨ i = 3 ∨ i = 4 := by omega
        · exact ⟨⟨a0, P0, H0, s0, r0, n0⟩, rfl, by simp [Stn.ent], o0, g0, rfl⟩
        · exact ⟨⟨a1, P1, H1, s1, r1, n1⟩, rfl, by simp [Stn.ent], o1, g1', rfl⟩
        · exact ⟨⟨a2, P2, H2, s2, r2, n2⟩, rfl, by simp [Stn.ent], o2, g2, rfl⟩
        · exact ⟨⟨a3, P3, H3, s3, r3, n3⟩, rfl, by simp [Stn.ent], o3, g3, rfl⟩
        · exact ⟨⟨a4, P4, H4, s4, r4, n4⟩, rfl, by simp [Stn.ent], o4, g4, rfl⟩
      refine kat_sorted (vs := [.ref a0, .ref a1, .ref a2, .ref a3, .ref a4]) lF lN2 (News.isList lN2 (.head _)) (Nat.le_of_ble_eq_true rfl) (Nat.le_of_ble_eq_true rfl) ?_
      intro DD e1 hD dF dN dlow
      k_dflt (refine' kat_kind ?t ?n ?T ?e ?_; (case t => kat_tups); (case n => exact Nat.le_of_ble_eq_true rfl); (case T => kas_types); (case e => exact rfl); k_whole)
      refine sort5 (K := fun i => List.getD [8 * P0 + H0, 8 * P1 + H1, 8 * P2 + H2, 8 * P3 + H3, 8 * P4 + H4] i 0) ?ask ?fin
      case ask =>
        intro i j C hi5 hj5 hC
        obtain ⟨x, vx, mx, x0, x8, kx⟩ := get i hi5
        obtain ⟨y, vy, my, y0, y8, ky⟩ := get j hj5
        dsimp only at kx ky hC
        rw [kx, ky] at hC
        unfold kas_ask
        rw [show List.getD [Value.ref a0, .ref a1, .ref a2, .ref a3, .ref a4] i Value.none = x.val from vx, show List.getD [Value.ref a0, .ref a1, .ref a2, .ref a3, .ref a4] j Value.none = y.val from vy]
        exact ask_tup (dN x.ent (.tail _ (.tail _ mx))).1 (dN y.ent (.tail _ (.tail _ my))).1 x0 x8 y0 y8 hC
      case fin =>
        intro p hrow
        obtain ⟨x0, x1, x2, x3, x4, hmap, hents, hsort, hpos⟩ := row5 hrow get
        refine KasFin.intro dF dN (UpdF.head fun q hq => Nat.ne_of_lt (dlow q hq)) ?_
        intro h3 c F3 N3
        have hmap' : (p.toList.map fun i => List.getD [Value.ref a0, .ref a1, .ref a2, .ref a3, .ref a4] i Value.none) = [x0.val, x1.val, x2.val, x3.val, x4.val] := hmap
        rw [hmap'] at N3
        have N4 : News g1 L1 h3 [(DD, W.listOf #[x0.val, x1.val, x2.val, x3.val, x4.val] c), x0.ent, x1.ent, x2.ent, x3.ent, x4.ent] := fun q hq => N3 q (by
          rcases List.mem_cons.mp hq with rfl | hq
          · exact .head _
          · exact .tail _ (.tail _ (hents q hq)))
        exact leaveK_ F3 N4 fun kF kN => hret DD c x0 x1 x2 x3 x4 _ _ hsort hpos kF kN
end
end Mine

section
-- the walk up to a loop, a block, or a call that a contract serves
local macro_rules | `(tactic| ktr_unf) => `(tactic| repeat' (
  (fail_if_success (with_reducible show wpAny _ _ (exec (Stmt.For _ _ _ _ _) _) _ _ _));
  (fail_if_success (with_reducible show wpAny _ _ (exec (Stmt.While _ _ _ _) _) _ _ _));
  (fail_if_success (with_reducible show wpAny _ _ (exec (Stmt.Assign _ (Expr.ListComp _ _ _ _) _) _) _ _ _));
  (fail_if_success (with_reducible show wpAny _ _ (eval (Expr.ListComp _ _ _ _) _) _ _ _));
  (fail_if_success (with_reducible show LCg.CompSrc _ _ _ _ _ _ _ _ _ _ _ _ _ _));
  (fail_if_success (with_reducible show LCt.CompSrcT _ _ _ _ _ _ _ _ _ _ _ _ _ _ _));
  (fail_if_success (with_reducible show wpAny _ _ (pyIter _) _ _ _));
  (fail_if_success (with_reducible show wpAny _ _ (call (Value.ref 21) _) _ _ _));
  (fail_if_success (with_reducible show wpAny _ _ (call (Value.ref 28) _) _ _ _));
  (fail_if_success (with_reducible show wpAny _ _ (call (Value.ref 89) _) _ _ _));
  (fail_if_success (with_reducible show wpAny _ _ (call (Value.ref 68) _) _ _ _));
  (fail_if_success (with_reducible show wpAny _ _ (call (Value.ref 75) _) _ _ _));
  (fail_if_success (with_reducible show wpAny _ _ (call (Value.ref 94) _) _ _ _));
  (fail_if_success (with_reducible show wpAny _ _ (call (Value.ref 82) _) _ _ _));
  first | (k_unfold; (try dsimp only)) | (k_end; wrow_close) | walk1 | (dsimp only; walk1) | (leave1; walk_say "STEP leave1"; try dsimp only) | fail "no step"))
-- heap.pop() upon an empty list
local macro_rules | `(tactic| walk_at "call builtin:list.pop") => `(tactic| (k_here; (try dsimp only); k_dflt (refine' Mine.pop_refused ?k0 ?k1 ?k2 ?_; (case k0 => rfl); (case k1 => k_asm); (case k2 => k_mem)); intro h' tk' e' x'))
theorem PySem.Challenge.cw_mr0060_01_holds : PySem.Challenge.rw_mr0060_01.Holds := by
  refine Mine.hd ?_
  w_strict (
    k_go0
    (all_goals try k_fold)
    ktr_unf
    k_dflt (refine' Mine.stations _ _ _ ?hi ?hlen _ _ _ _ _ _ _ _ _ _ _ _ _ _ _ _ _ ?pB ?pF ?pX ?pN ?pT ?pk ?pd ?pu ?pl ?ret)
    (case hi => assumption)
    (case hlen => omega)
    (case pB => k_asm)
    (case pF => k_asm)
    (case pX => k_asm)
    (case pN => k_asm)
    (case pT => k_asm)
    (case pk => exact rfl)
    (case pd => ktr_room)
    (case pu => ktr_units)
    (case pl => assumption)
    (case ret =>
      rintro D c ⟨b0, p0, h0, t0, u0, k0⟩ ⟨b1, p1, h1, t1, u1, k1⟩ ⟨b2, p2, h2, t2, u2, k2⟩ ⟨b3, p3, h3, t3, u3, k3⟩ ⟨b4, p4, h4, t4, u4, k4⟩ hA tkA hsort hpos aF aN
      replace hsort : [(p0, h0), (p1, h1), (p2, h2), (p3, h3), (p4, h4)].Pairwise fun a b : Mine.PP => a.1 ≤ b.1 := hsort
      replace hpos : ∀ q ∈ ([(p0, h0), (p1, h1), (p2, h2), (p3, h3), (p4, h4)] : List Mine.PP), 0 ≤ q.2 := hpos
      replace aN : News _ _ hA [(D, W.listOf #[.ref b0, .ref b1, .ref b2, .ref b3, .ref b4] c), (b0, Mine.tup p0 h0 t0 u0 k0), (b1, Mine.tup p1 h1 t1 u1 k1), (b2, Mine.tup p2 h2 t2 u2 k2), (b3, Mine.tup p3 h3 t3 u3 k3), (b4, Mine.tup p4 h4 t4 u4 k4)] := aN
      ktr_unf
      k_dflt (refine' Mine.told _ _ _ _ _ _ _ _ _ _ _ _ _ _ _ _ _ _ _ _ _ _ _ _ _ _ _ _ _ _ _ _ _ _ _ _ ?ne hsort hpos _ _ _ _ _ _ _ _ _ _ _ _ _ _ _ _ _ ?pB ?pF ?pX ?pN ?pT ?pk ?pd ?pu ?ret2)
      (case pB => k_asm)
      (case pF => k_asm)
      (case pX => k_asm)
      (case pN => k_asm)
      (case pT => k_asm)
      (case pk => exact rfl)
      (case pd => ktr_room)
      (case pu => ktr_units)
      (case ne => omega)
      (case ret2 =>
        rintro _ _ hB tkB ⟨TL, ti, tn, n', tl, rfl, hTi, hBest, hl6, rfl⟩ bF bN _
        ktr_unf
        k_dflt (refine' Mine.far _ _ _ _ _ _ _ _ ti _ _ _ _ _ _ _ _ _ _ _ _ _ _ _ _ _ _ _ _ _ _ _ _ _ _ _ _ _ _ _ _ _ _ _ _ _ _ _ _ _ _ _ _ _ _ _ ?pB ?pF ?pX ?pN ?pT ?pk ?pd ?pu ?ret3)
        (case pB => k_asm)
        (case pF => k_asm)
        (case pX => k_asm)
        (case pN => k_asm)
        (case pT => k_asm)
        (case pk => exact rfl)
        (case pd => ktr_room)
        (case pu => ktr_units)
        (case ret3 =>
          rintro _ _ hC tkC ⟨R, ys, rs, rfl, hys, hRes, rfl⟩ cF cN
          have hrl := hRes.len
          have heq := hBest.unique (Mine.res_best hsort hpos hRes)
          subst heq
          ktr_unf
          k_steps))))
end
