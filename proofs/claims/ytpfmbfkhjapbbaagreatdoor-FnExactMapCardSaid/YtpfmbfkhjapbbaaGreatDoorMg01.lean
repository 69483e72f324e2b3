/-
  Primes: Euclid's lemma, Fermat's little theorem, Pocklington's criterion, and powers modulo a number by squaring. No condition; no program in sight.
  The simplified SWU map in a prime field: the program's straight line gives the point that the specification's formula gives. Conditions: a prime that leaves 3 if it is divided by 4. No program in sight.
  The map's straight line, step by step as the program goes it (numbers modulo p), gives the point that the specification's steps give. Conditions: p a prime that leaves 3 if it is divided by 4, the closed facts on the curve's constants. No program in sight.
  The three primes of the curves are primes: Pocklington's certificates. Printed by a program (cert.py). No condition; no program in sight.
  The three curves' own numbers satisfy what the plain law of the map asks: checked by the kernel. No condition; no program in sight.
  The plain law that the map's point is not (0, 0). Conditions: a prime that leaves 3 if it is divided by 4; B is not 0 modulo it. No program in sight.
-/
set_option linter.unusedVariables false
set_option linter.unusedSimpArgs false
namespace Go.Proofs.YtpfmbfkhjapbbaaGreatDoor
section
def Pr (p:Nat):Prop:=2≤p∧∀ d,d ∣ p→d=1∨d=p
theorem Pr.coprime {p a:Nat} (h:Pr p) (ha:¬ p ∣ a):Nat.Coprime p a:=by
  rcases h.2 _ (Nat.gcd_dvd_left p a) with h1 | h1
  · exact h1
  · exact absurd (h1 ▸ Nat.gcd_dvd_right p a) ha
theorem Pr.dvd_mul {p a b:Nat} (h:Pr p) (hd:p ∣ a*b):p ∣ a∨p ∣ b:=by
  by_cases ha:p ∣ a
  · exact .inl ha
  · exact .inr ((h.coprime ha).dvd_of_dvd_mul_left hd)
theorem exists_factor {n:Nat} (h:2≤n) (hn:¬ Pr n):∃ d e,n=d*e∧2≤d∧2≤e:=by
  have:∃ d,d ∣ n∧d≠1∧d≠n:=by
    by_cases hc:∃ d,d ∣ n∧d≠1∧d≠n
    · exact hc
    · refine absurd ⟨h,fun d hd => ?_⟩ hn
      by_cases h1:d=1
      · exact .inl h1
      · by_cases h2:d=n
        · exact .inr h2
        · exact absurd ⟨d,hd,h1,h2⟩ hc
  obtain ⟨d,⟨e,he⟩,h1,h2⟩:=this
  refine ⟨d,e,he,?_,?_⟩
  · rcases Nat.lt_or_ge d 2 with hlt | hge
    · have:d=0:=by omega
      subst this
      simp at he
      omega
    · exact hge
  · rcases Nat.lt_or_ge e 2 with hlt | hge
    · have:e=0∨e=1:=by omega
      rcases this with rfl | rfl
      · simp at he;omega
      · simp at he;omega
    · exact hge
theorem exists_prime (n:Nat) (h:2≤n):∃ r,Pr r∧r ∣ n:=by
  induction n using Nat.strongRecOn with
  | ind n ih =>
    by_cases hn:Pr n
    · exact ⟨n,hn,Nat.dvd_refl n⟩
    · obtain ⟨d,e,he,h1,h2⟩:=exists_factor h hn
      have hlt:d<n:=by
        have:d*2≤d*e:=Nat.mul_le_mul_left d h2
        omega
      obtain ⟨r,hr,hd⟩:=ih d hlt h1
      exact ⟨r,hr,Nat.dvd_trans hd ⟨e,he⟩⟩
theorem exists_small_prime {n:Nat} (h:2≤n) (hn:¬ Pr n):∃ r,Pr r∧r ∣ n∧r*r≤n:=by
  obtain ⟨d,e,he,h1,h2⟩:=exists_factor h hn
  have key:∀ d e,n=d*e→2≤d→d≤e→∃ r,Pr r∧r ∣ n∧r*r≤n:=by
    intro d e he h1 hle
    obtain ⟨r,hr,hd⟩:=exists_prime d h1
    have hrd:=Nat.le_of_dvd (by omega) hd
    exact ⟨r,hr,Nat.dvd_trans hd ⟨e,he⟩,by rw [he];exact Nat.mul_le_mul hrd (by omega)⟩
  rcases Nat.le_total d e with hle | hle
  · exact key d e he h1 hle
  · exact key e d (by rw [he,Nat.mul_comm]) h2 hle
def ch:Nat→Nat→Nat
  | _,0=>1
  | 0,_+1=>0
  | n+1,k+1=>ch n k+ch n (k+1)
theorem ch_zero (n:Nat):ch n 0=1:=by cases n <;> rfl
theorem ch_gt:∀ n k,n<k→ch n k=0
  | 0,0,h=>by omega
  | 0,k+1,_=>rfl
  | n+1,0,h=>by omega
  | n+1,k+1,h=>by simp only [ch];rw [ch_gt n k (by omega),ch_gt n (k+1) (by omega)]
theorem ch_self:∀ n,ch n n=1
  | 0=>rfl
  | n+1=>by simp only [ch];rw [ch_self n,ch_gt n (n+1) (by omega)]
theorem ch_mul:∀ n k,(k+1)*ch (n+1) (k+1)=(n+1)*ch n k
  | 0,0=>rfl
  | 0,k+1=>by simp [ch]
  | n+1,0=>by
    have h:=ch_mul n 0
    rw [ch_zero] at h
    show (0+1)*(ch (n+1) 0+ch (n+1) 1)=(n+1+1)*ch (n+1) 0
    rw [ch_zero]
    have h':ch (n+1) 1=n+1:=by simpa using h
    omega
  | n+1,k+1=>by
    have h1:=ch_mul n k
    have h2:=ch_mul n (k+1)
    have e1:ch (n+1+1) (k+1+1)=ch (n+1) (k+1)+ch (n+1) (k+1+1):=rfl
    have e2:ch (n+1) (k+1)=ch n k+ch n (k+1):=rfl
    rw [e1]
    have h3:(n+1)*ch (n+1) (k+1)=(n+1)*ch n k+(n+1)*ch n (k+1):=by rw [e2,Nat.mul_add]
    have h4:(k+1+1)*(ch (n+1) (k+1)+ch (n+1) (k+1+1))=(k+1)*ch (n+1) (k+1)+ch (n+1) (k+1)+(k+1+1)*ch (n+1) (k+1+1):=by
      rw [Nat.mul_add,Nat.add_mul (k+1) 1,Nat.one_mul]
    have h5:(n+1+1)*ch (n+1) (k+1)=(n+1)*ch (n+1) (k+1)+ch (n+1) (k+1):=by rw [Nat.add_mul (n+1) 1,Nat.one_mul]
    rw [h4,h5,h1,h2,h3]
    omega
def sm (f:Nat→Nat):Nat→Nat
  | 0=>0
  | n+1=>sm f n+f n
theorem sm_shift (f:Nat→Nat):∀ n,sm f (n+1)=f 0+sm (fun k=>f (k+1)) n
  | 0=>by simp [sm]
  | n+1=>by
    have:=sm_shift f n
    simp only [sm] at *
    omega
theorem sm_add (f g:Nat→Nat):∀ n,sm (fun k=>f k+g k) n=sm f n+sm g n
  | 0=>rfl
  | n+1=>by
    have:=sm_add f g n
    simp only [sm] at *
    omega
theorem sm_mul (a:Nat) (f:Nat→Nat):∀ n,sm (fun k=>a*f k) n=a*sm f n
  | 0=>rfl
  | n+1=>by
    have:=sm_mul a f n
    simp only [sm] at *
    rw [this,Nat.mul_add]
theorem sm_congr {f g:Nat→Nat}:∀ {n},(∀ k,k<n→f k=g k)→sm f n=sm g n
  | 0,_=>rfl
  | n+1,h=>by
    simp only [sm]
    rw [sm_congr fun k hk=>h k (by omega),h n (by omega)]
theorem sm_dvd {p:Nat} {f:Nat→Nat}:∀ {n},(∀ k,k<n→p ∣ f k)→p ∣ sm f n
  | 0,_=>Nat.dvd_zero p
  | n+1,h=>Nat.dvd_add (sm_dvd fun k hk=>h k (by omega)) (h n (by omega))
theorem binom (a:Nat):∀ n,(a+1)^n=sm (fun k=>ch n k*a^k) (n+1)
  | 0=>by simp [sm,ch]
  | n+1=>by
    have ih:=binom a n
    rw [sm_shift]
    have h1:sm (fun k=>ch (n+1) (k+1)*a^(k+1)) (n+1)=sm (fun k=>a*(ch n k*a^k)) (n+1)+sm (fun k=>ch n (k+1)*a^(k+1)) (n+1):=by
      rw [← sm_add]
      refine sm_congr fun k hk => ?_
      simp only [ch,Nat.add_mul,Nat.pow_succ]
      congr 1
      ac_rfl
    have h2:sm (fun k=>ch n k*a^k) (n+1+1)=ch n 0*a^0+sm (fun k=>ch n (k+1)*a^(k+1)) (n+1):=sm_shift _ _
    have h3:sm (fun k=>ch n k*a^k) (n+1+1)=sm (fun k=>ch n k*a^k) (n+1):=by
      rw [sm,ch_gt n (n+1) (by omega)]
      simp
    rw [h1,sm_mul,← ih]
    rw [h3,← ih] at h2
    simp only [ch_zero] at *
    rw [Nat.pow_succ,Nat.mul_add,Nat.mul_one,Nat.mul_comm ((a+1)^n) a]
    omega
theorem ch_dvd {p k:Nat} (h:Pr p) (h0:0<k) (hk:k<p):p ∣ ch p k:=by
  obtain ⟨q,rfl⟩:∃ q,p=q+1:=⟨p - 1,by omega⟩
  obtain ⟨j,rfl⟩:∃ j,k=j+1:=⟨k - 1,by omega⟩
  have hm:=ch_mul q j
  have hd:q+1 ∣ (j+1)*ch (q+1) (j+1):=⟨_,hm⟩
  rcases h.dvd_mul hd with h1 | h1
  · have:=Nat.le_of_dvd (by omega) h1
    omega
  · exact h1
theorem pow_succ_mod {p:Nat} (h:Pr p) (a:Nat):(a+1)^p%p=(a^p+1)%p:=by
  obtain ⟨q,rfl⟩:∃ q,p=q+1:=⟨p - 1,by have:=h.1;omega⟩
  rw [binom,sm,sm_shift,ch_self,ch_zero]
  have hd:q+1 ∣ sm (fun k=>ch (q+1) (k+1)*a^(k+1)) q:=sm_dvd fun k hk=>Nat.dvd_trans (ch_dvd h (by omega) (by omega)) ⟨_,rfl⟩
  obtain ⟨c,hc⟩:=hd
  rw [hc]
  have:1*a^0+(q+1)*c+1*a^(q+1)=(a^(q+1)+1)+(q+1)*c:=by
    rw [Nat.pow_zero]
    omega
  rw [this,Nat.add_mul_mod_self_left]
theorem pow_p_mod {p:Nat} (h:Pr p):∀ a,a^p%p=a%p
  | 0=>by rw [Nat.zero_pow (by have:=h.1;omega)]
  | a+1=>by rw [pow_succ_mod h,Nat.add_mod,pow_p_mod h a,← Nat.add_mod]
theorem fermat {p a:Nat} (h:Pr p) (ha:¬ p ∣ a):a^(p - 1)%p=1:=by
  have h2:=h.1
  have ha0:0<a:=by
    rcases Nat.eq_zero_or_pos a with rfl | hp
    · exact absurd (Nat.dvd_zero p) ha
    · exact hp
  have hpos:0<a^(p - 1):=Nat.pow_pos ha0
  have h1:=pow_p_mod h a
  have h3:a^p=a*a^(p - 1):=by
    rw [show p=p - 1+1 by omega,Nat.pow_succ,Nat.mul_comm]
    simp
  have h4:p ∣ a*(a^(p - 1) - 1):=by
    rw [Nat.mul_sub,Nat.mul_one,← h3]
    exact Nat.dvd_of_mod_eq_zero (Nat.sub_mod_eq_zero_of_mod_eq h1)
  rcases h.dvd_mul h4 with h5 | h5
  · exact absurd h5 ha
  · obtain ⟨c,hc⟩:=h5
    have:a^(p - 1)=1+p*c:=by omega
    rw [this,Nat.add_mul_mod_self_left,Nat.mod_eq_of_lt (by omega)]
theorem pow_mul_one {r a m:Nat} (hr:2≤r) (h:a^m%r=1) (k:Nat):a^(m*k)%r=1:=by
  rw [Nat.pow_mul,Nat.pow_mod,h]
  simp [Nat.mod_eq_of_lt (show 1<r by omega)]
theorem pow_gcd {r a:Nat} (hr:2≤r):∀ m n,a^m%r=1→a^n%r=1→a^(Nat.gcd m n)%r=1:=by
  intro m n
  induction m,n using Nat.gcd.induction with
  | H0 n=>intro _ h;simpa using h
  | H1 m n hm ih =>
    intro h1 h2
    rw [Nat.gcd_rec]
    refine ih ?_ h1
    have h3:a^n=a^(m*(n/m))*a^(n%m):=by rw [← Nat.pow_add,Nat.div_add_mod]
    rw [h3,Nat.mul_mod,pow_mul_one hr h1,Nat.one_mul,Nat.mod_mod] at h2
    exact h2
theorem pock_q {N q r a:Nat} (hN:2≤N) (hr:Pr r) (hrN:r ∣ N) (hq:Pr q) (hqN:q ∣ N - 1) (h1:a^(N - 1)%N=1) (h2:Nat.gcd (a^((N - 1)/q)%N+(N - 1)) N=1):q ∣ r - 1:=by
  have hr2:=hr.1
  have hmm:∀ x,x%N%r=x%r:=fun x=>Nat.mod_mod_of_dvd x hrN
  have h1r:a^(N - 1)%r=1:=by rw [← hmm,h1,Nat.mod_eq_of_lt (by omega)]
  have hra:¬ r ∣ a:=fun hd=>by
    have:r ∣ a^(N - 1):=Nat.dvd_trans hd (by
      obtain ⟨k,hk⟩:∃ k,N - 1=k+1:=⟨N - 2,by omega⟩
      rw [hk,Nat.pow_succ]
      exact Nat.dvd_mul_left a _)
    rw [Nat.mod_eq_zero_of_dvd this] at h1r
    omega
  by_cases hc:q ∣ r - 1
  · exact hc
  · have hd:=pow_gcd hr2 _ _ h1r (fermat hr hra)
    obtain ⟨s,hs⟩:=hqN
    have hdN:Nat.gcd (N - 1) (r - 1) ∣ q*s:=by rw [← hs];exact Nat.gcd_dvd_left _ _
    have hco:Nat.Coprime (Nat.gcd (N - 1) (r - 1)) q:=by
      have:Nat.Coprime q (Nat.gcd (N - 1) (r - 1)):=hq.coprime fun h=>hc (Nat.dvd_trans h (Nat.gcd_dvd_right _ _))
      exact this.symm
    obtain ⟨t,ht⟩:=hco.dvd_of_dvd_mul_left hdN
    have hs1:a^s%r=1:=by rw [ht];exact pow_mul_one hr2 hd t
    have hsq:(N - 1)/q=s:=by rw [hs,Nat.mul_div_cancel_left _ (by have:=hq.1;omega)]
    rw [hsq] at h2
    have hrd:r ∣ a^s%N+(N - 1):=by
      obtain ⟨c,hc⟩:=hrN
      have h5:a^s%N%r=1:=by rw [hmm,hs1]
      have h6:=Nat.div_add_mod (a^s%N) r
      rw [h5] at h6
      refine ⟨a^s%N/r+c,?_⟩
      rw [Nat.mul_add,← hc]
      omega
    have:=Nat.dvd_gcd hrd hrN
    rw [h2] at this
    have:=Nat.le_of_dvd (by omega) this
    omega
theorem pock {N F:Nat} (hN:2≤N) (hF:N<F*F) (h:∀ r,Pr r→r ∣ N→F ∣ r - 1):Pr N:=by
  by_cases hn:Pr N
  · exact hn
  · obtain ⟨r,hr,hd,hle⟩:=exists_small_prime hN hn
    have h1:=Nat.le_of_dvd (by have:=hr.1;omega) (h r hr hd)
    have h2:F*F≤r*r:=Nat.mul_le_mul (by omega) (by omega)
    omega
def pm (N:Nat):Nat→Nat→Nat→Nat
  | 0,_,_=>1%N
  | f+1,a,n=>bif Nat.beq (n%2) 1 then a*pm N f (a*a%N) (n/2)%N else pm N f (a*a%N) (n/2)
theorem pm_eq (N:Nat):∀ f a n,n<2^f→pm N f a n=a^n%N
  | 0,a,n,h=>by
    obtain rfl:n=0:=by omega
    simp [pm]
  | f+1,a,n,h=>by
    have hlt:n/2<2^f:=by rw [Nat.pow_succ] at h;omega
    have ih:=pm_eq N f (a*a%N) (n/2) hlt
    have h1:(a*a%N)^(n/2)%N=a^(2*(n/2))%N:=by
      rw [← Nat.pow_mod,← Nat.pow_two,← Nat.pow_mul]
    simp only [pm]
    rw [ih,h1]
    rcases Nat.mod_two_eq_zero_or_one n with h2 | h2
    · have:Nat.beq (n%2) 1=false:=by rw [h2];rfl
      rw [this,cond_false]
      congr 2
      omega
    · have:Nat.beq (n%2) 1=true:=by rw [h2];rfl
      rw [this,cond_true,Nat.mul_mod,Nat.mod_mod,← Nat.mul_mod,← Nat.pow_succ']
      congr 2
      omega
def stepOk (N q a:Nat):Bool:=Nat.beq ((N - 1)%q) 0 && Nat.beq (pm N (N.log2+1) a (N - 1)) 1 && Nat.beq (Nat.gcd (pm N (N.log2+1) a ((N - 1)/q)+(N - 1)) N) 1
theorem step_of {N q a r:Nat} (hN:2≤N) (hq:Pr q) (h:stepOk N q a=true) (hr:Pr r) (hrN:r ∣ N):q ∣ r - 1:=by
  simp only [stepOk,Bool.and_eq_true] at h
  obtain ⟨⟨h0,h1⟩,h2⟩:=h
  have h0:=Nat.eq_of_beq_eq_true h0
  have h1:=Nat.eq_of_beq_eq_true h1
  have h2:=Nat.eq_of_beq_eq_true h2
  have hlt:N<2^(N.log2+1):=Nat.lt_log2_self
  rw [pm_eq _ _ _ _ (by omega)] at h1
  rw [pm_eq _ _ _ _ (Nat.lt_of_le_of_lt (Nat.div_le_self _ _) (by omega))] at h2
  exact pock_q hN hr hrN hq (Nat.dvd_of_mod_eq_zero h0) h1 h2
def noDiv (n:Nat):Nat→Bool
  | 0=>true
  | 1=>true
  | d+2 => !Nat.beq (n%(d+2)) 0 && noDiv n (d+1)
theorem noDiv_of {n:Nat}:∀ {m},noDiv n m=true→∀ d,2≤d→d≤m→¬ d ∣ n
  | 0,_,d,h2,hm=>by omega
  | 1,_,d,h2,hm=>by omega
  | m+2,h,d,h2,hm=>by
    simp only [noDiv,Bool.and_eq_true,Bool.not_eq_true'] at h
    by_cases e:d=m+2
    · subst e
      intro hd
      exact absurd (Nat.mod_eq_zero_of_dvd hd) (Nat.ne_of_beq_eq_false h.1)
    · exact noDiv_of h.2 d h2 (by omega)
theorem prime_small {n m:Nat} (hn:2≤n) (hm:n<(m+1)*(m+1)) (h:noDiv n m=true):Pr n:=by
  by_cases hp:Pr n
  · exact hp
  · obtain ⟨r,hr,hd,hle⟩:=exists_small_prime hn hp
    have hrm:r≤m:=by
      rcases Nat.lt_or_ge m r with h1 | h1
      · have:(m+1)*(m+1)≤r*r:=Nat.mul_le_mul h1 h1
        omega
      · exact h1
    exact absurd hd (noDiv_of h r hr.1 hrm)
end
section
set_option linter.unusedSectionVars false
section
variable {p:Nat} [NeZero p]
theorem fp_pow_zero (x:Fin p):x^0=1:=by grind
theorem fp_pow_succ (x:Fin p) (n:Nat):x^(n+1)=x^n*x:=by grind
theorem fp_pow_add (x:Fin p) (m n:Nat):x^(m+n)=x^m*x^n:=by
  induction n with
  | zero=>grind
  | succ n ih=>rw [← Nat.add_assoc,fp_pow_succ,ih,fp_pow_succ];grind
theorem fp_mul_pow (x y:Fin p) (n:Nat):(x*y)^n=x^n*y^n:=by
  induction n with
  | zero=>rw [fp_pow_zero,fp_pow_zero,fp_pow_zero];grind
  | succ n ih=>rw [fp_pow_succ,ih,fp_pow_succ,fp_pow_succ];grind
theorem fp_pow_mul (x:Fin p) (m n:Nat):x^(m*n)=(x^m)^n:=by
  induction n with
  | zero=>rw [Nat.mul_zero,fp_pow_zero,fp_pow_zero]
  | succ n ih=>rw [Nat.mul_succ,fp_pow_add,ih,fp_pow_succ]
theorem fp_one_pow (n:Nat):(1:Fin p)^n=1:=by
  induction n with
  | zero=>exact fp_pow_zero _
  | succ n ih=>rw [fp_pow_succ,ih];grind
def cc (p:Nat) [NeZero p] (x:Nat):Fin p:=Fin.ofNat p x
theorem cc_val (x:Nat):(cc p x).val=x%p:=rfl
theorem cc_eq {x y:Nat} (h:x%p=y%p):cc p x=cc p y:=Fin.ext h
theorem cc_eq_iff {x y:Nat}:cc p x=cc p y ↔ x%p=y%p:=⟨fun h=>by have:=congrArg Fin.val h;simpa [cc_val] using this,cc_eq⟩
theorem cc_mod (x:Nat):cc p (x%p)=cc p x:=cc_eq (Nat.mod_mod _ _)
theorem cc_add (x y:Nat):cc p (x+y)=cc p x+cc p y:=by
  apply Fin.ext;rw [Fin.val_add];simp [cc_val,Nat.add_mod]
theorem cc_mul (x y:Nat):cc p (x*y)=cc p x*cc p y:=by
  apply Fin.ext;rw [Fin.val_mul];simp [cc_val,Nat.mul_mod]
theorem cc_zero:cc p 0=0:=Fin.ext (by simp [cc_val])
theorem cc_one:cc p 1=1:=rfl
theorem cc_p:cc p p=0:=Fin.ext (by simp [cc_val])
theorem cc_pow (x n:Nat):cc p (x^n)=cc p x^n:=by
  induction n with
  | zero=>rw [Nat.pow_zero,fp_pow_zero,cc_one]
  | succ n ih=>rw [Nat.pow_succ,cc_mul,ih,fp_pow_succ]
theorem cc_sub {x y:Nat} (h:y≤x):cc p (x - y)=cc p x - cc p y:=by
  have h1:cc p (x - y)+cc p y=cc p x:=by rw [← cc_add,Nat.sub_add_cancel h]
  grind
theorem cc_neg {y:Nat} (h:y≤p):cc p (p - y) = - cc p y:=by
  rw [cc_sub h,cc_p];grind
theorem cc_inj {x y:Nat} (hx:x<p) (hy:y<p) (h:cc p x=cc p y):x=y:=by
  have:=cc_eq_iff.1 h
  rwa [Nat.mod_eq_of_lt hx,Nat.mod_eq_of_lt hy] at this
theorem cc_eq_zero {x:Nat}:cc p x=0 ↔ p ∣ x:=by
  rw [← cc_zero,cc_eq_iff,Nat.zero_mod]
  exact ⟨Nat.dvd_of_mod_eq_zero,Nat.mod_eq_zero_of_dvd⟩
theorem cc_surj (a:Fin p):cc p a.val=a:=Fin.ext (by rw [cc_val,Nat.mod_eq_of_lt a.isLt])
theorem fp_mul_zero (hp:Pr p) {a b:Fin p} (h:a*b=0):a=0∨b=0:=by
  rw [← cc_surj a,← cc_surj b,← cc_mul,cc_eq_zero] at h
  rcases hp.dvd_mul h with h | h
  · exact .inl (by rw [← cc_surj a];exact cc_eq_zero.2 h)
  · exact .inr (by rw [← cc_surj b];exact cc_eq_zero.2 h)
theorem fp_mul_cancel (hp:Pr p) {a b c:Fin p} (hc:c≠0) (h:a*c=b*c):a=b:=by
  have h1:(a - b)*c=0:=by grind
  rcases fp_mul_zero hp h1 with h2 | h2
  · grind
  · exact absurd h2 hc
theorem fp_fermat (hp:Pr p) {a:Fin p} (h:a≠0):a^(p - 1)=1:=by
  rw [← cc_surj a,← cc_pow,← cc_one]
  refine cc_eq ?_
  rw [fermat hp fun hd=>h (by rw [← cc_surj a];exact cc_eq_zero.2 hd),Nat.mod_eq_of_lt (by have:=hp.1;omega)]
theorem fp_sq_one (hp:Pr p) {a:Fin p} (h:a*a=1):a=1∨a = -1:=by
  have h1:(a - 1)*(a+1)=0:=by grind
  rcases fp_mul_zero hp h1 with h2 | h2
  · exact .inl (by grind)
  · exact .inr (by grind)
theorem fp_mul_ne (hp:Pr p) {a b:Fin p} (ha:a≠0) (hb:b≠0):a*b≠0:=fun h=>(fp_mul_zero hp h).elim ha hb
theorem fp_pow_ne (hp:Pr p) {a:Fin p} (ha:a≠0) (h1:(1:Fin p)≠0):∀ n:Nat,a^n≠0
  | 0=>by rw [fp_pow_zero];exact h1
  | n+1=>by rw [fp_pow_succ];exact fp_mul_ne hp (fp_pow_ne hp ha h1 n) ha
def gOf (B x:Fin p):Fin p:=x*x*x - 3*x+B
theorem y1_root (hp:Pr p) (h4:p%4=3) {g xd gx1:Fin p} (hxd:xd≠0) (hg:gx1=g*(xd*xd*xd)) :
    (gx1*(xd*xd*xd)*((xd*xd*xd)*(xd*xd*xd)))^((p - 3)/4)*(gx1*(xd*xd*xd))=g^((p+1)/4):=by
  have hd:xd*xd*xd≠0:=fp_mul_ne hp (fp_mul_ne hp hxd hxd) hxd
  generalize xd*xd*xd=d at *
  have hf:=fp_fermat hp hd
  have e1:p - 1=4*((p - 3)/4)+2:=by omega
  have e2:(p+1)/4=(p - 3)/4+1:=by omega
  rw [e1,fp_pow_add,fp_pow_mul] at hf
  rw [e2]
  generalize (p - 3)/4=c at *
  have h1:gx1*d*(d*d)=g*d^4:=by rw [hg];grind
  have h2:(d^4)^c*d^2=1:=hf
  rw [h1,fp_mul_pow,hg]
  generalize (d^4)^c=q at *
  have h3:g^c*q*(g*d*d)=g^c*g*(q*d^2):=by grind
  rw [h3,h2,fp_pow_succ]
  grind
theorem e2_iff (hp:Pr p) {g xd gx1 y:Fin p} (hxd:xd≠0) (hg:gx1=g*(xd*xd*xd)):y*y*(xd*xd*xd)=gx1 ↔ y*y=g:=by
  have hd:xd*xd*xd≠0:=fp_mul_ne hp (fp_mul_ne hp hxd hxd) hxd
  constructor
  · intro h
    rw [hg] at h
    exact fp_mul_cancel hp hd h
  · intro h
    rw [hg,h]
theorem gx1_eq {B x1 x1n xd:Fin p} (h:x1n=x1*xd):(x1n*x1n + -3*(xd*xd))*x1n+B*(xd*xd*xd)=gOf B x1*(xd*xd*xd):=by
  unfold gOf
  rw [h]
  grind
theorem g_second (hp:Pr p) {B x1 zu t:Fin p} (ht:t=zu*zu+zu) (hx:3*x1*t=B*(t+1)):gOf B (zu*x1)=zu*zu*zu*gOf B x1:=by
  unfold gOf
  grind
theorem u6 (hp:Pr p) (h4:p%4=3) {u:Fin p} (hu:u≠0):(u^6)^((p+1)/4)=u*u*u∨(u^6)^((p+1)/4) = -(u*u*u):=by
  have hf:=fp_fermat hp hu
  have e1:p - 1=(p - 1)/2*2:=by omega
  rw [e1,fp_pow_mul] at hf
  have hs:u^((p - 1)/2)*u^((p - 1)/2)=1:=by
    have:(u^((p - 1)/2))^2=u^((p - 1)/2)*u^((p - 1)/2):=by grind
    rw [← this,hf]
  have e2:6*((p+1)/4)=(p - 1)/2*3+3:=by omega
  rw [← fp_pow_mul,e2,fp_pow_add,fp_pow_mul]
  rcases fp_sq_one hp hs with h | h
  · left;rw [h,fp_one_pow];grind
  · right;rw [h];grind
theorem y2_root (hp:Pr p) (h4:p%4=3) {B x1 zu t u Z C2 r:Fin p} (hu:u≠0) (hzu:zu=Z*(u*u)) (ht:t=zu*zu+zu) (hx:3*x1*t=B*(t+1))
    (hC:(Z*Z*Z)^((p+1)/4)=C2∨(Z*Z*Z)^((p+1)/4) = - C2) (hr:r=gOf B x1^((p+1)/4)) :
    gOf B (zu*x1)^((p+1)/4)=r*C2*(u*u)*u∨gOf B (zu*x1)^((p+1)/4) = -(r*C2*(u*u)*u):=by
  have h1:zu*zu*zu=Z*Z*Z*u^6:=by rw [hzu];grind
  have h6:=u6 hp h4 hu
  rw [g_second hp ht hx,fp_mul_pow,h1,fp_mul_pow,← hr]
  generalize (u^6)^((p+1)/4)=a at *
  generalize (Z*Z*Z)^((p+1)/4)=b at *
  rcases h6 with rfl | rfl <;> rcases hC with rfl | rfl
  · left;grind
  · right;grind
  · right;grind
  · left;grind
end
end
section
set_option linter.unusedSectionVars false
section
variable {p:Nat} [NeZero p]
theorem fp_assoc {a b c d:Fin p} (h:b*c=d):a*b*c=a*d:=by rw [← h];grind
theorem map_core (hp:Pr p) (h4:p%4=3) {u B Z C2 zu t X1 i3 it i0 x1n xd xi gx1 y1:Fin p} (h1ne:(1:Fin p)≠0)
    (hzu:zu=Z*(u*u)) (ht:t=zu*zu+zu) (h3:3*i3=1) (hit:t≠0→t*it=1) (h0:3*(-Z)*i0=1)
    (hX:t≠0→X1=B*i3*(1+it)) (hX0:t=0→X1=B*i0)
    (hd:t≠0→xd=3*t) (hd0:t=0→xd=Z * -3) (hn:x1n=(t+1)*B) (hxi:xd*xi=1)
    (hgx:gx1=(x1n*x1n + -3*(xd*xd))*x1n+B*(xd*xd*xd))
    (hy1:y1=(gx1*(xd*xd*xd)*((xd*xd*xd)*(xd*xd*xd)))^((p - 3)/4)*(gx1*(xd*xd*xd)))
    (hC:(Z*Z*Z)^((p+1)/4)=C2∨(Z*Z*Z)^((p+1)/4) = - C2)
    (hsq:gOf B (B*i0)^((p+1)/4)*gOf B (B*i0)^((p+1)/4)=gOf B (B*i0)) :
    x1n*xi=X1∧y1=gOf B X1^((p+1)/4)∧(y1*y1*(xd*xd*xd)=gx1 ↔ y1*y1=gOf B X1)∧zu*x1n*xi=zu*X1 ∧
    (¬ y1*y1=gOf B X1→gOf B (zu*X1)^((p+1)/4)=y1*C2*(u*u)*u∨gOf B (zu*X1)^((p+1)/4) = -(y1*C2*(u*u)*u)):=by
  have hxd:xd≠0:=fun h=>h1ne (by rw [← hxi,h];grind)
  have hx1:x1n=X1*xd:=by
    by_cases h:t=0
    · rw [hX0 h,hn,hd0 h,h]
      clear hy1 hgx hC hsq hX hX0 hd hd0 hzu ht hn hxi hit
      grind
    · have e:=hit h
      rw [hX h,hn,hd h]
      clear hy1 hgx hC hsq hX hX0 hd hd0 hzu ht hn hxi h0 hit
      grind
  have hg:gx1=gOf B X1*(xd*xd*xd):=by rw [hgx];exact gx1_eq hx1
  have hy:=y1_root hp h4 hxd hg
  rw [← hy1] at hy
  have hxx:x1n*xi=X1:=by
    rw [hx1]
    clear hy1 hgx hC hsq hX hX0 hd hd0 hzu ht hn hit hy hg hx1
    grind
  refine ⟨hxx,hy,e2_iff hp hxd hg,fp_assoc hxx,fun hno => ?_⟩
  by_cases h:t=0
  · refine absurd ?_ hno
    rw [hy,hX0 h]
    exact hsq
  · have hu:u≠0:=fun hu=>h (by rw [ht,hzu,hu];grind)
    have hx3:3*X1*t=B*(t+1):=by
      have e:=hit h
      rw [hX h]
      clear hy1 hgx hC hsq hX hX0 hd hd0 hzu ht hn hit hy hg hx1 hxx hno
      grind
    exact y2_root hp h4 hu hzu ht hx3 hC hy
end
def ma (p a b:Nat):Nat:=(a+b)%p
def ms (p a b:Nat):Nat:=(a+p - b)%p
def mm (p a b:Nat):Nat:=a*b%p
def mRight (p B x:Nat):Nat:=ma p (ms p (mm p (mm p x x) x) (mm p 3 x)) B
def mRoot (p a:Nat):Nat:=a^((p+1)/4)%p
def mSign (p u y:Nat):Nat:=if u%2=y%2 then y else ms p 0 y
def mZu (p mz u:Nat):Nat:=mm p (ms p 0 mz) (mm p u u)
def mT (p mz u:Nat):Nat:=ma p (mm p (mZu p mz u) (mZu p mz u)) (mZu p mz u)
def mX1 (p B mz u i3 it i0:Nat):Nat:=if mT p mz u=0 then mm p B i0 else mm p (mm p B i3) (ma p 1 it)
def specX (p B mz u i3 it i0:Nat):Nat :=
  let x:=mX1 p B mz u i3 it i0
  if mm p (mRoot p (mRight p B x)) (mRoot p (mRight p B x))=mRight p B x then x else mm p (mZu p mz u) x
def specY (p B mz u i3 it i0:Nat):Nat :=
  let x:=mX1 p B mz u i3 it i0
  if mm p (mRoot p (mRight p B x)) (mRoot p (mRight p B x))=mRight p B x then mSign p u (mRoot p (mRight p B x)) else mSign p u (mRoot p (mRight p B (mm p (mZu p mz u) x)))
section
variable {p:Nat} [NeZero p]
theorem cc_ma (a b:Nat):cc p (ma p a b)=cc p a+cc p b:=by unfold ma;rw [cc_mod,cc_add]
theorem cc_mm (a b:Nat):cc p (mm p a b)=cc p a*cc p b:=by unfold mm;rw [cc_mod,cc_mul]
theorem cc_ms {a b:Nat} (h:b≤a+p):cc p (ms p a b)=cc p a - cc p b:=by
  unfold ms;rw [cc_mod,cc_sub h,cc_add,cc_p];grind
theorem ma_lt (a b:Nat):ma p a b<p:=Nat.mod_lt _ (Nat.pos_of_neZero p)
theorem ms_lt (a b:Nat):ms p a b<p:=Nat.mod_lt _ (Nat.pos_of_neZero p)
theorem mm_lt (a b:Nat):mm p a b<p:=Nat.mod_lt _ (Nat.pos_of_neZero p)
theorem cc_root (a:Nat):cc p (mRoot p a)=cc p a^((p+1)/4):=by unfold mRoot;rw [cc_mod,cc_pow]
theorem cc_three:cc p 3=3:=by
  have:cc p 3=cc p (1+1+1):=rfl
  rw [this,cc_add,cc_add,cc_one];grind
theorem cc_right (B x:Nat):cc p (mRight p B x)=gOf (cc p B) (cc p x):=by
  unfold mRight gOf
  rw [cc_ma,cc_ms (by have:=@mm_lt p _ 3 x;omega),cc_mm,cc_mm,cc_mm,cc_three]
theorem sign_eq (hodd:p%2=1) {u y y':Nat} (hy:y<p) (hy':y'<p) (h:cc p y=cc p y'∨cc p y = - cc p y'):mSign p u y=mSign p u y':=by
  rcases h with h | h
  · rw [cc_inj hy hy' h]
  · rw [← cc_neg (Nat.le_of_lt hy')] at h
    by_cases h0:y'=0
    · subst h0
      rw [Nat.sub_zero,cc_p,← cc_zero] at h
      rw [cc_inj hy hy' h]
    · have hyy:y=p - y':=cc_inj hy (by omega) h
      unfold mSign ms
      have e1:(0+p - y)%p=y':=by rw [Nat.mod_eq_of_lt (by omega)];omega
      have e2:(0+p - y')%p=y:=by rw [Nat.mod_eq_of_lt (by omega)];omega
      rw [e1,e2]
      by_cases hp1:u%2=y%2
      · rw [if_pos hp1,if_neg (by omega)]
      · rw [if_neg hp1,if_pos (by omega)]
def iq (p:Nat) (a:Int):Int:=a%(p:Int)
def ci (p:Nat) [NeZero p] (a:Int):Fin p:=cc p (a%(p:Int)).toNat
theorem iq_nn (a:Int):0≤iq p a:=Int.emod_nonneg _ (by have:=Nat.pos_of_neZero p;omega)
theorem iq_lt (a:Int):iq p a<p:=Int.emod_lt_of_pos _ (by have:=Nat.pos_of_neZero p;omega)
theorem ci_nat (x:Nat):ci p (x:Int)=cc p x:=by
  unfold ci
  rw [show ((x:Int)%(p:Int)).toNat=x%p by omega,cc_mod]
theorem ci_iq (a:Int):ci p (iq p a)=ci p a:=by unfold ci iq;rw [Int.emod_emod_of_dvd _ (Int.dvd_refl _)]
theorem ci_add (a b:Int):ci p (a+b)=ci p a+ci p b:=by
  unfold ci
  rw [← cc_add]
  refine cc_eq ?_
  have h1:0≤a%(p:Int):=iq_nn a
  have h2:0≤b%(p:Int):=iq_nn b
  have h3:0≤(a+b)%(p:Int):=iq_nn (a+b)
  have:((((a+b)%(p:Int)).toNat%p:Nat):Int)=((((a%(p:Int)).toNat+(b%(p:Int)).toNat)%p:Nat):Int):=by
    rw [Int.natCast_emod,Int.natCast_emod,Int.natCast_add,Int.toNat_of_nonneg h1,Int.toNat_of_nonneg h2,Int.toNat_of_nonneg h3,Int.emod_emod_of_dvd _ (Int.dvd_refl _),← Int.add_emod]
  omega
theorem ci_mul (a b:Int):ci p (a*b)=ci p a*ci p b:=by
  unfold ci
  rw [← cc_mul]
  refine cc_eq ?_
  have h1:0≤a%(p:Int):=iq_nn a
  have h2:0≤b%(p:Int):=iq_nn b
  have h3:0≤(a*b)%(p:Int):=iq_nn (a*b)
  have:((((a*b)%(p:Int)).toNat%p:Nat):Int)=((((a%(p:Int)).toNat*(b%(p:Int)).toNat)%p:Nat):Int):=by
    rw [Int.natCast_emod,Int.natCast_emod,Int.natCast_mul,Int.toNat_of_nonneg h1,Int.toNat_of_nonneg h2,Int.toNat_of_nonneg h3,Int.emod_emod_of_dvd _ (Int.dvd_refl _),← Int.mul_emod]
  exact Int.ofNat.inj this
theorem ci_neg (a:Int):ci p (-a) = - ci p a:=by
  have h:ci p (a + -a)=0:=by
    rw [Int.add_right_neg]
    have:=@ci_nat p _ 0
    rw [cc_zero] at this
    exact this
  rw [ci_add] at h
  grind
theorem ci_pow (a:Int) (n:Nat):ci p (a^n)=ci p a^n:=by
  induction n with
  | zero=>rw [Int.pow_zero,fp_pow_zero];exact (ci_nat 1).trans cc_one
  | succ n ih=>rw [Int.pow_succ,ci_mul,ih,fp_pow_succ]
theorem toNat_of_iq {a:Int} {x:Nat} (hx:x<p) (h:ci p a=cc p x):iq p a=x:=by
  unfold ci at h
  have h1:0≤a%(p:Int):=iq_nn a
  have h2:a%(p:Int)<p:=iq_lt a
  have:=cc_inj (by omega) hx h
  unfold iq
  omega
theorem ci_inj {a b:Int} (h:ci p a=ci p b):iq p a=iq p b:=by
  have h1:=@iq_nn p _ b
  have h2:=@iq_lt p _ b
  have e:((iq p b).toNat:Int)=iq p b:=Int.toNat_of_nonneg h1
  rw [← e]
  refine toNat_of_iq (by omega) ?_
  rw [h,← ci_nat,e,ci_iq]
end
section
variable (p B mz u C2:Nat)
def iMul (p:Nat) (a b:Int):Int:=iq p (a*b)
def iAdd (p:Nat) (a b:Int):Int:=iq p (a+b)
def jTv1:Int:=iMul p u u
def jTv3:Int:=iMul p (-(mz:Int)) (jTv1 p u)
def jT:Int:=iAdd p (iMul p (jTv3 p mz u) (jTv3 p mz u)) (jTv3 p mz u)
def jN:Int:=iMul p (iAdd p (jT p mz u) 1) B
def jD1:Int:=iMul p 3 (jT p mz u)
def jD:Int:=if jD1 p mz u=0 then iMul p (-(mz:Int)) (-3) else jD1 p mz u
def jD2:Int:=iMul p (jD p mz u) (jD p mz u)
def jD3:Int:=iMul p (jD2 p mz u) (jD p mz u)
def jG:Int:=iAdd p (iMul p (iAdd p (iMul p (jN p B mz u) (jN p B mz u)) (iMul p (-3) (jD2 p mz u))) (jN p B mz u)) (iMul p B (jD3 p mz u))
def jS:Int:=iMul p (jG p B mz u) (jD3 p mz u)
def jE:Int:=iMul p (iMul p (jD3 p mz u) (jD3 p mz u)) (jS p B mz u)
def jY1:Int:=iMul p (iq p (jE p B mz u^((p - 3)/4))) (jS p B mz u)
def jN2:Int:=iMul p (jTv3 p mz u) (jN p B mz u)
def jY2:Int:=iMul p (iMul p (iMul p (jY1 p B mz u) C2) (jTv1 p u)) u
def jOk:Bool:=decide (iMul p (iMul p (jY1 p B mz u) (jY1 p B mz u)) (jD3 p mz u)=jG p B mz u)
def jX (tvi:Int):Int:=iMul p (if jOk p B mz u then jN p B mz u else jN2 p B mz u) tvi
def jYc:Int:=if jOk p B mz u then jY1 p B mz u else jY2 p B mz u C2
def jY:Int:=iq p (if (u:Int)%2=jYc p B mz u C2%2 then jYc p B mz u C2 else -jYc p B mz u C2)
end
section
variable {p:Nat} [NeZero p]
theorem ci_iMul (a b:Int):ci p (iMul p a b)=ci p a*ci p b:=by unfold iMul;rw [ci_iq,ci_mul]
theorem ci_iAdd (a b:Int):ci p (iAdd p a b)=ci p a+ci p b:=by unfold iAdd;rw [ci_iq,ci_add]
theorem ci_zero_iff {a:Int} (h0:0≤a) (h1:a<p):ci p a=0 ↔ a=0:=by
  obtain ⟨x,rfl⟩:∃ x:Nat,a=x:=⟨a.toNat,by omega⟩
  rw [ci_nat,cc_eq_zero]
  constructor
  · intro h
    have:=Nat.eq_zero_of_dvd_of_lt h (by omega)
    omega
  · intro h
    have:x=0:=by omega
    rw [this];exact Nat.dvd_zero _
theorem inv_unique {a x y:Fin p} (hx:a*x=1) (hy:a*y=1):x=y:=by
  have:x*(a*y)=y*(a*x):=by grind
  rw [hx,hy] at this
  grind
set_option maxHeartbeats 1000000 in
theorem map_law (hp:Pr p) (h4:p%4=3) {B mz u C2 i3 it i0 j0:Nat} {tvi:Int} (hu:u<p) (hmz:mz<p) (hC2:C2<p)
    (h3:mm p 3 i3=1) (hit:mT p mz u≠0→mm p (mT p mz u) it=1) (h0:mm p (ms p 0 (mm p (ms p 0 mz) 3)) i0=1) (hj:mm p (3*mz) j0=1)
    (hi:iMul p (jD p mz u) tvi=1)
    (hC:(p - mz)^(3*((p+1)/4))%p=C2∨(p - mz)^(3*((p+1)/4))%p=p - C2)
    (hsq:mm p (mRoot p (mRight p B (mm p B j0))) (mRoot p (mRight p B (mm p B j0)))=mRight p B (mm p B j0)) :
    jX p B mz u tvi=specX p B mz u i3 it i0∧jY p B mz u C2=specY p B mz u i3 it i0:=by
  have hp2:=hp.1
  have hone:(1:Fin p)≠0:=fun h=>by
    have:=cc_one (p:=p)
    rw [h,cc_eq_zero] at this
    have:=Nat.le_of_dvd (by omega) this
    omega
  have cone:ci p 1=1:=(ci_nat 1).trans cc_one
  have cthree:ci p 3=3:=(ci_nat 3).trans cc_three
  have cm3:ci p (-3) = -3:=by rw [ci_neg,cthree]
  
  have ezu:cc p (mZu p mz u) = -cc p mz*(cc p u*cc p u):=by
    unfold mZu
    rw [cc_mm,cc_ms (by omega),cc_mm,cc_zero];grind
  have etv1:ci p (jTv1 p u)=cc p u*cc p u:=by unfold jTv1;rw [ci_iMul,ci_nat]
  have etv3:ci p (jTv3 p mz u)=cc p (mZu p mz u):=by unfold jTv3;rw [ci_iMul,etv1,ci_neg,ci_nat,ezu]
  have et:ci p (jT p mz u)=cc p (mT p mz u):=by unfold jT mT;rw [ci_iAdd,ci_iMul,etv3,cc_ma,cc_mm]
  have etz:cc p (mT p mz u)=cc p (mZu p mz u)*cc p (mZu p mz u)+cc p (mZu p mz u):=by unfold mT;rw [cc_ma,cc_mm]
  have eT0:cc p (mT p mz u)=0 ↔ mT p mz u=0:=by
    rw [cc_eq_zero]
    constructor
    · intro h;exact Nat.eq_zero_of_dvd_of_lt h (ma_lt _ _)
    · intro h;rw [h];exact Nat.dvd_zero _
  have e3i:(3:Fin p)*cc p i3=1:=by rw [← cc_three,← cc_mm,h3,cc_one]
  have three_ne:(3:Fin p)≠0:=fun h=>hone (by rw [← e3i,h];grind)
  have eD1:ci p (jD1 p mz u)=3*cc p (mT p mz u):=by unfold jD1;rw [ci_iMul,et,cthree]
  have eD0:jD1 p mz u=0 ↔ mT p mz u=0:=by
    have h1:=ci_zero_iff (p:=p) (a:=jD1 p mz u) (iq_nn _) (iq_lt _)
    rw [← h1,eD1,← eT0]
    constructor
    · intro h
      rcases fp_mul_zero hp h with h | h
      · exact absurd h three_ne
      · exact h
    · intro h;rw [h];grind
  have hdne:cc p (mT p mz u)≠0→ci p (jD p mz u)=3*cc p (mT p mz u):=fun h=>by
    unfold jD
    rw [if_neg (fun hh=>h (eT0.2 (eD0.1 hh))),eD1]
  have hdz:cc p (mT p mz u)=0→ci p (jD p mz u) = -cc p mz * -3:=fun h=>by
    unfold jD
    rw [if_pos (eD0.2 (eT0.1 h)),ci_iMul,ci_neg,ci_nat,cm3]
  have hxi:ci p (jD p mz u)*ci p tvi=1:=by rw [← ci_iMul,hi,cone]
  have hi0:3*(- -cc p mz)*cc p i0=1:=by
    have:cc p (mm p (ms p 0 (mm p (ms p 0 mz) 3)) i0)=cc p 1:=by rw [h0]
    rw [cc_mm,cc_ms (by have:=@mm_lt p _ (ms p 0 mz) 3;omega),cc_mm,cc_ms (by omega),cc_zero,cc_three,cc_one] at this
    rw [← this];grind
  have hj0:3*(- -cc p mz)*cc p j0=1:=by
    have:cc p (mm p (3*mz) j0)=cc p 1:=by rw [hj]
    rw [cc_mm,cc_mul,cc_three,cc_one] at this
    rw [← this];grind
  have hij:cc p i0=cc p j0:=inv_unique hi0 hj0
  have hX:cc p (mT p mz u)≠0→cc p (mX1 p B mz u i3 it i0)=cc p B*cc p i3*(1+cc p it):=fun h=>by
    unfold mX1
    rw [if_neg (fun hh=>h (eT0.2 hh)),cc_mm,cc_mm,cc_ma,cc_one]
  have hX0:cc p (mT p mz u)=0→cc p (mX1 p B mz u i3 it i0)=cc p B*cc p i0:=fun h=>by
    unfold mX1
    rw [if_pos (eT0.1 h),cc_mm]
  have hti:cc p (mT p mz u)≠0→cc p (mT p mz u)*cc p it=1:=fun h=>by
    rw [← cc_mm,hit (fun hh=>h (eT0.2 hh)),cc_one]
  have hn:ci p (jN p B mz u)=(cc p (mT p mz u)+1)*cc p B:=by unfold jN;rw [ci_iMul,ci_iAdd,et,cone,ci_nat]
  have eD2:ci p (jD2 p mz u)=ci p (jD p mz u)*ci p (jD p mz u):=by unfold jD2;rw [ci_iMul]
  have eD3:ci p (jD3 p mz u)=ci p (jD p mz u)*ci p (jD p mz u)*ci p (jD p mz u):=by unfold jD3;rw [ci_iMul,eD2]
  have hgx:ci p (jG p B mz u)=(ci p (jN p B mz u)*ci p (jN p B mz u) + -3*(ci p (jD p mz u)*ci p (jD p mz u)))*ci p (jN p B mz u)+cc p B*(ci p (jD p mz u)*ci p (jD p mz u)*ci p (jD p mz u)):=by
    unfold jG
    rw [ci_iAdd,ci_iMul,ci_iAdd,ci_iMul,ci_iMul,ci_iMul,cm3,eD2,eD3,ci_nat]
  have eS:ci p (jS p B mz u)=ci p (jG p B mz u)*(ci p (jD p mz u)*ci p (jD p mz u)*ci p (jD p mz u)):=by unfold jS;rw [ci_iMul,eD3]
  have eE:ci p (jE p B mz u)=ci p (jG p B mz u)*(ci p (jD p mz u)*ci p (jD p mz u)*ci p (jD p mz u))*((ci p (jD p mz u)*ci p (jD p mz u)*ci p (jD p mz u))*(ci p (jD p mz u)*ci p (jD p mz u)*ci p (jD p mz u))):=by
    unfold jE
    rw [ci_iMul,ci_iMul,eS,eD3]
    generalize ci p (jD p mz u)*ci p (jD p mz u)*ci p (jD p mz u)=d
    generalize ci p (jG p B mz u)=g
    clear hX hX0 hti hn eD2 eD3 hgx eS hdne hdz hxi hi0 hj0 hij e3i eD1 etz et
    grind
  have hy1:ci p (jY1 p B mz u)=(ci p (jG p B mz u)*(ci p (jD p mz u)*ci p (jD p mz u)*ci p (jD p mz u))*((ci p (jD p mz u)*ci p (jD p mz u)*ci p (jD p mz u))*(ci p (jD p mz u)*ci p (jD p mz u)*ci p (jD p mz u))))^((p - 3)/4)*(ci p (jG p B mz u)*(ci p (jD p mz u)*ci p (jD p mz u)*ci p (jD p mz u))):=by
    unfold jY1
    rw [ci_iMul,ci_iq,ci_pow,eE,eS]
  have hC':(-cc p mz * -cc p mz * -cc p mz)^((p+1)/4)=cc p C2∨(-cc p mz * -cc p mz * -cc p mz)^((p+1)/4) = - cc p C2:=by
    have e:(-cc p mz * -cc p mz * -cc p mz)^((p+1)/4)=cc p ((p - mz)^(3*((p+1)/4))%p):=by
      rw [cc_mod,cc_pow,cc_neg (by omega),fp_pow_mul]
      congr 1
      generalize -cc p mz=z
      clear hX hX0 hti hn eD2 eD3 hgx eS hdne hdz hxi hi0 hj0 hij e3i eD1 etz et eE hy1
      grind
    rw [e]
    rcases hC with h | h
    · left;rw [h]
    · right;rw [h,cc_neg (by omega)]
  have hsq':gOf (cc p B) (cc p B*cc p i0)^((p+1)/4)*gOf (cc p B) (cc p B*cc p i0)^((p+1)/4)=gOf (cc p B) (cc p B*cc p i0):=by
    have:=congrArg (cc p) hsq
    rw [cc_mm,cc_root,cc_right,cc_mm,← hij] at this
    exact this
  obtain ⟨r1,r2,r3,r4,r5⟩:=map_core hp h4 hone ezu etz e3i hti hi0 hX hX0 hdne hdz hn hxi hgx hy1 hC' hsq'
  
  have hxlt:∀ a b,mm p a b<p:=fun a b=>mm_lt a b
  have eok:jOk p B mz u=true ↔ mm p (mRoot p (mRight p B (mX1 p B mz u i3 it i0))) (mRoot p (mRight p B (mX1 p B mz u i3 it i0)))=mRight p B (mX1 p B mz u i3 it i0):=by
    have a1:jOk p B mz u=true ↔ ci p (jY1 p B mz u)*ci p (jY1 p B mz u)*(ci p (jD p mz u)*ci p (jD p mz u)*ci p (jD p mz u))=ci p (jG p B mz u):=by
      unfold jOk
      rw [decide_eq_true_iff,← eD3,← ci_iMul,← ci_iMul]
      constructor
      · intro h;rw [h]
      · intro h
        have:=ci_inj h
        have e1:∀ x:Int,iq p (iq p x)=iq p x:=fun x=>Int.emod_emod_of_dvd _ (Int.dvd_refl _)
        unfold jG iMul iAdd at this ⊢
        rw [e1,e1] at this
        exact this
    rw [a1,r3,r2,← cc_right,← cc_root,← cc_mm]
    constructor
    · intro h;exact cc_inj (mm_lt _ _) (ma_lt _ _) h
    · intro h;rw [h]
  have hodd:p%2=1:=by omega
  have hy1n:iq p (jY1 p B mz u)=mRoot p (mRight p B (mX1 p B mz u i3 it i0)):=toNat_of_iq (Nat.mod_lt _ (Nat.pos_of_neZero p)) (by rw [r2,cc_root,cc_right])
  have e1:∀ x:Int,iq p (iq p x)=iq p x:=fun x=>Int.emod_emod_of_dvd _ (Int.dvd_refl _)
  have hY1:jY1 p B mz u=mRoot p (mRight p B (mX1 p B mz u i3 it i0)):=by rw [← hy1n];unfold jY1 iMul;rw [e1]
  
  have hsign:∀ (y:Int) (y0:Nat),y=y0→y0<p→iq p (if (u:Int)%2=y%2 then y else -y)=(mSign p u y0:Nat):=by
    intro y y0 hy hlt
    subst hy
    unfold mSign
    by_cases hpar:u%2=y0%2
    · rw [if_pos (by omega),if_pos hpar]
      exact toNat_of_iq hlt (ci_nat y0)
    · rw [if_neg (by omega),if_neg hpar]
      refine toNat_of_iq (ms_lt _ _) ?_
      rw [ci_neg,ci_nat,cc_ms (by omega),cc_zero]
      clear hX hX0 hti hn eD2 eD3 hgx eS hdne hdz hxi hi0 hj0 hij e3i eD1 etz et eE hy1 hC' hsq' r1 r2 r3 r4 r5 eok
      grind
  unfold specX specY jX jY jYc
  simp only []
  by_cases hok:jOk p B mz u=true
  · rw [if_pos hok,if_pos hok,if_pos (eok.1 hok),if_pos (eok.1 hok)]
    refine ⟨?_,hsign _ _ hY1 (Nat.mod_lt _ (Nat.pos_of_neZero p))⟩
    unfold iMul
    refine toNat_of_iq ?_ (by rw [ci_mul,r1])
    unfold mX1
    split <;> exact mm_lt _ _
  · rw [if_neg hok,if_neg hok,if_neg (fun h=>hok (eok.2 h)),if_neg (fun h=>hok (eok.2 h))]
    have hno:¬ ci p (jY1 p B mz u)*ci p (jY1 p B mz u)=gOf (cc p B) (cc p (mX1 p B mz u i3 it i0)):=fun h=>hok (eok.2 (by
      refine cc_inj (mm_lt _ _) (ma_lt _ _) ?_
      rw [cc_mm,cc_root,cc_right,← r2,h]))
    have h5:=r5 hno
    constructor
    · unfold iMul
      refine toNat_of_iq (mm_lt _ _) ?_
      rw [ci_mul,cc_mm,← r4]
      unfold jN2
      rw [ci_iMul,etv3]
    · have hY2:∃ y2:Nat,jY2 p B mz u C2=y2∧y2<p∧cc p y2=ci p (jY1 p B mz u)*cc p C2*(cc p u*cc p u)*cc p u:=by
        refine ⟨(jY2 p B mz u C2).toNat,(Int.toNat_of_nonneg (iq_nn _)).symm,?_,?_⟩
        · have h1:=@iq_nn p _ (iMul p (iMul p (jY1 p B mz u) C2) (jTv1 p u)*u)
          have h2:=@iq_lt p _ (iMul p (iMul p (jY1 p B mz u) C2) (jTv1 p u)*u)
          unfold jY2 iMul at *
          omega
        · rw [← ci_nat,Int.toNat_of_nonneg (show 0≤jY2 p B mz u C2 from iq_nn _)]
          unfold jY2
          rw [ci_iMul,ci_iMul,ci_iMul,ci_nat,ci_nat,etv1]
      obtain ⟨y2,hy2,hlt2,hc2⟩:=hY2
      rw [hsign _ _ hy2 hlt2]
      congr 1
      refine sign_eq hodd hlt2 (Nat.mod_lt _ (Nat.pos_of_neZero p)) ?_
      have e6:cc p (mRoot p (mRight p B (mm p (mZu p mz u) (mX1 p B mz u i3 it i0))))=gOf (cc p B) (cc p (mZu p mz u)*cc p (mX1 p B mz u i3 it i0))^((p+1)/4):=by rw [cc_root,cc_right,cc_mm]
      show cc p y2=cc p (mRoot p (mRight p B (mm p (mZu p mz u) (mX1 p B mz u i3 it i0))))∨cc p y2 = -cc p (mRoot p (mRight p B (mm p (mZu p mz u) (mX1 p B mz u i3 it i0))))
      rw [hc2,e6]
      rcases h5 with h | h
      · left;rw [h]
      · right;rw [h]
        generalize ci p (jY1 p B mz u)*cc p C2*(cc p u*cc p u)*cc p u=q
        clear hX hX0 hti hn eD2 eD3 hgx eS hdne hdz hxi hi0 hj0 hij e3i eD1 etz et eE hy1 hC' hsq' r1 r2 r3 r4 r5 eok hno h
        grind
end
end
section
set_option maxRecDepth 100000
theorem pr0:Pr 704251:=prime_small (m:=839) (by decide) (by decide) (by decide +kernel)
theorem pr1:Pr 78283:=prime_small (m:=279) (by decide) (by decide) (by decide +kernel)
theorem pr2:Pr 46076956964474543:=by
  refine pock (F:=55130881033) (by decide +kernel) (by decide +kernel) fun r hr hd => ?_
  have h0:704251 ∣ r - 1:=step_of (by decide +kernel) pr0 (a:=2) (by decide +kernel) hr hd
  have h1:78283 ∣ r - 1:=step_of (by decide +kernel) pr1 (a:=2) (by decide +kernel) hr hd
  have k0:=h0
  have k1:55130881033 ∣ r - 1:=Nat.Coprime.mul_dvd_of_dvd_of_dvd (m:=704251) (n:=78283) (by decide +kernel) k0 h1
  exact k1
theorem pr3:Pr 3677:=prime_small (m:=60) (by decide) (by decide) (by decide +kernel)
theorem pr4:Pr 197:=prime_small (m:=14) (by decide) (by decide) (by decide +kernel)
theorem pr5:Pr 66417393611:=by
  refine pock (F:=724369) (by decide +kernel) (by decide +kernel) fun r hr hd => ?_
  have h0:3677 ∣ r - 1:=step_of (by decide +kernel) pr3 (a:=2) (by decide +kernel) hr hd
  have h1:197 ∣ r - 1:=step_of (by decide +kernel) pr4 (a:=2) (by decide +kernel) hr hd
  have k0:=h0
  have k1:724369 ∣ r - 1:=Nat.Coprime.mul_dvd_of_dvd_of_dvd (m:=3677) (n:=197) (by decide +kernel) k0 h1
  exact k1
theorem pr6:Pr 11290956913871 :=
  pock (F:=66417393611) (by decide +kernel) (by decide +kernel) fun r hr hd=>step_of (by decide +kernel) pr5 (q:=66417393611) (a:=2) (by decide +kernel) hr hd
theorem pr7:Pr 774023187263532362759620327192479577272145303:=by
  refine pock (F:=520252935808170366214423085953) (by decide +kernel) (by decide +kernel) fun r hr hd => ?_
  have h0:46076956964474543 ∣ r - 1:=step_of (by decide +kernel) pr2 (a:=2) (by decide +kernel) hr hd
  have h1:11290956913871 ∣ r - 1:=step_of (by decide +kernel) pr6 (a:=2) (by decide +kernel) hr hd
  have k0:=h0
  have k1:520252935808170366214423085953 ∣ r - 1:=Nat.Coprime.mul_dvd_of_dvd_of_dvd (m:=46076956964474543) (n:=11290956913871) (by decide +kernel) k0 h1
  exact k1
theorem pr8:Pr 835945042244614951780389953367877943453916927241 :=
  pock (F:=774023187263532362759620327192479577272145303) (by decide +kernel) (by decide +kernel) fun r hr hd=>step_of (by decide +kernel) pr7 (q:=774023187263532362759620327192479577272145303) (a:=2) (by decide +kernel) hr hd
theorem pr9:Pr 115792089210356248762697446949407573530086143415290314195533631308867097853951 :=
  pock (F:=835945042244614951780389953367877943453916927241) (by decide +kernel) (by decide +kernel) fun r hr hd=>step_of (by decide +kernel) pr8 (q:=835945042244614951780389953367877943453916927241) (a:=2) (by decide +kernel) hr hd
theorem pr10:Pr 2437:=prime_small (m:=49) (by decide) (by decide) (by decide +kernel)
theorem pr11:Pr 7:=prime_small (m:=2) (by decide) (by decide) (by decide +kernel)
theorem pr12:Pr 9211861:=by
  refine pock (F:=17059) (by decide +kernel) (by decide +kernel) fun r hr hd => ?_
  have h0:2437 ∣ r - 1:=step_of (by decide +kernel) pr10 (a:=2) (by decide +kernel) hr hd
  have h1:7 ∣ r - 1:=step_of (by decide +kernel) pr11 (a:=2) (by decide +kernel) hr hd
  have k0:=h0
  have k1:17059 ∣ r - 1:=Nat.Coprime.mul_dvd_of_dvd_of_dvd (m:=2437) (n:=7) (by decide +kernel) k0 h1
  exact k1
theorem pr13:Pr 24098228377 :=
  pock (F:=9211861) (by decide +kernel) (by decide +kernel) fun r hr hd=>step_of (by decide +kernel) pr12 (q:=9211861) (a:=2) (by decide +kernel) hr hd
theorem pr14:Pr 674750394557 :=
  pock (F:=24098228377) (by decide +kernel) (by decide +kernel) fun r hr hd=>step_of (by decide +kernel) pr13 (q:=24098228377) (a:=2) (by decide +kernel) hr hd
theorem pr15:Pr 361725589517273017 :=
  pock (F:=674750394557) (by decide +kernel) (by decide +kernel) fun r hr hd=>step_of (by decide +kernel) pr14 (q:=674750394557) (a:=2) (by decide +kernel) hr hd
theorem pr16:Pr 173308343918874810521923841 :=
  pock (F:=361725589517273017) (by decide +kernel) (by decide +kernel) fun r hr hd=>step_of (by decide +kernel) pr15 (q:=361725589517273017) (a:=3) (by decide +kernel) hr hd
theorem pr17:Pr 223:=prime_small (m:=14) (by decide) (by decide) (by decide +kernel)
theorem pr18:Pr 151:=prime_small (m:=12) (by decide) (by decide) (by decide +kernel)
theorem pr19:Pr 8620289:=by
  refine pock (F:=33673) (by decide +kernel) (by decide +kernel) fun r hr hd => ?_
  have h0:223 ∣ r - 1:=step_of (by decide +kernel) pr17 (a:=2) (by decide +kernel) hr hd
  have h1:151 ∣ r - 1:=step_of (by decide +kernel) pr18 (a:=2) (by decide +kernel) hr hd
  have k0:=h0
  have k1:33673 ∣ r - 1:=Nat.Coprime.mul_dvd_of_dvd_of_dvd (m:=223) (n:=151) (by decide +kernel) k0 h1
  exact k1
theorem pr20:Pr 2534364967 :=
  pock (F:=8620289) (by decide +kernel) (by decide +kernel) fun r hr hd=>step_of (by decide +kernel) pr19 (q:=8620289) (a:=2) (by decide +kernel) hr hd
theorem pr21:Pr 145295143558111 :=
  pock (F:=2534364967) (by decide +kernel) (by decide +kernel) fun r hr hd=>step_of (by decide +kernel) pr20 (q:=2534364967) (a:=3) (by decide +kernel) hr hd
theorem pr22:Pr 23609:=prime_small (m:=153) (by decide) (by decide) (by decide +kernel)
theorem pr23:Pr 1433:=prime_small (m:=37) (by decide) (by decide) (by decide +kernel)
theorem pr24:Pr 108140989558681:=by
  refine pock (F:=33831697) (by decide +kernel) (by decide +kernel) fun r hr hd => ?_
  have h0:23609 ∣ r - 1:=step_of (by decide +kernel) pr22 (a:=3) (by decide +kernel) hr hd
  have h1:1433 ∣ r - 1:=step_of (by decide +kernel) pr23 (a:=3) (by decide +kernel) hr hd
  have k0:=h0
  have k1:33831697 ∣ r - 1:=Nat.Coprime.mul_dvd_of_dvd_of_dvd (m:=23609) (n:=1433) (by decide +kernel) k0 h1
  exact k1
theorem pr25:Pr 397:=prime_small (m:=19) (by decide) (by decide) (by decide +kernel)
theorem pr26:Pr 11:=prime_small (m:=3) (by decide) (by decide) (by decide +kernel)
theorem pr27:Pr 2995763:=by
  refine pock (F:=4367) (by decide +kernel) (by decide +kernel) fun r hr hd => ?_
  have h0:397 ∣ r - 1:=step_of (by decide +kernel) pr25 (a:=2) (by decide +kernel) hr hd
  have h1:11 ∣ r - 1:=step_of (by decide +kernel) pr26 (a:=2) (by decide +kernel) hr hd
  have k0:=h0
  have k1:4367 ∣ r - 1:=Nat.Coprime.mul_dvd_of_dvd_of_dvd (m:=397) (n:=11) (by decide +kernel) k0 h1
  exact k1
theorem pr28:Pr 65427463921 :=
  pock (F:=2995763) (by decide +kernel) (by decide +kernel) fun r hr hd=>step_of (by decide +kernel) pr27 (q:=2995763) (a:=3) (by decide +kernel) hr hd
theorem pr29:Pr 1663:=prime_small (m:=40) (by decide) (by decide) (by decide +kernel)
theorem pr30:Pr 347:=prime_small (m:=18) (by decide) (by decide) (by decide +kernel)
theorem pr31:Pr 2400573761:=by
  refine pock (F:=577061) (by decide +kernel) (by decide +kernel) fun r hr hd => ?_
  have h0:1663 ∣ r - 1:=step_of (by decide +kernel) pr29 (a:=3) (by decide +kernel) hr hd
  have h1:347 ∣ r - 1:=step_of (by decide +kernel) pr30 (a:=3) (by decide +kernel) hr hd
  have k0:=h0
  have k1:577061 ∣ r - 1:=Nat.Coprime.mul_dvd_of_dvd_of_dvd (m:=1663) (n:=347) (by decide +kernel) k0 h1
  exact k1
theorem pr32:Pr 49481:=prime_small (m:=222) (by decide) (by decide) (by decide +kernel)
theorem pr33:Pr 308761441 :=
  pock (F:=49481) (by decide +kernel) (by decide +kernel) fun r hr hd=>step_of (by decide +kernel) pr32 (q:=49481) (a:=3) (by decide +kernel) hr hd
theorem pr34:Pr 6864797660130609714981900799081393217269435300143305409394463459185543183397656052122559640661454554977296311391480858037121987999716643812574028291115057151:=by
  refine pock (F:=132056295654733991378633375070984620857946545645629524532113586380681654485071972151) (by decide +kernel) (by decide +kernel) fun r hr hd => ?_
  have h0:173308343918874810521923841 ∣ r - 1:=step_of (by decide +kernel) pr16 (a:=3) (by decide +kernel) hr hd
  have h1:145295143558111 ∣ r - 1:=step_of (by decide +kernel) pr21 (a:=3) (by decide +kernel) hr hd
  have h2:108140989558681 ∣ r - 1:=step_of (by decide +kernel) pr24 (a:=3) (by decide +kernel) hr hd
  have h3:65427463921 ∣ r - 1:=step_of (by decide +kernel) pr28 (a:=3) (by decide +kernel) hr hd
  have h4:2400573761 ∣ r - 1:=step_of (by decide +kernel) pr31 (a:=3) (by decide +kernel) hr hd
  have h5:308761441 ∣ r - 1:=step_of (by decide +kernel) pr33 (a:=3) (by decide +kernel) hr hd
  have k0:=h0
  have k1:25180860709511389126787968488405699824351 ∣ r - 1:=Nat.Coprime.mul_dvd_of_dvd_of_dvd (m:=173308343918874810521923841) (n:=145295143558111) (by decide +kernel) k0 h1
  have k2:2723083195065871768985229694380056435313428206707241031 ∣ r - 1:=Nat.Coprime.mul_dvd_of_dvd_of_dvd (m:=25180860709511389126787968488405699824351) (n:=108140989558681) (by decide +kernel) k1 h2
  have k3:178164427499053730383693562610948998883413194321161742765203342551 ∣ r - 1:=Nat.Coprime.mul_dvd_of_dvd_of_dvd (m:=2723083195065871768985229694380056435313428206707241031) (n:=65427463921) (by decide +kernel) k2 h3
  have k4:427696849797815237488263228668454818028740012408575086719178727957425404311 ∣ r - 1:=Nat.Coprime.mul_dvd_of_dvd_of_dvd (m:=178164427499053730383693562610948998883413194321161742765203342551) (n:=2400573761) (by decide +kernel) k3 h4
  have k5:132056295654733991378633375070984620857946545645629524532113586380681654485071972151 ∣ r - 1:=Nat.Coprime.mul_dvd_of_dvd_of_dvd (m:=427696849797815237488263228668454818028740012408575086719178727957425404311) (n:=308761441) (by decide +kernel) k4 h5
  exact k5
theorem pr35:Pr 363557:=prime_small (m:=602) (by decide) (by decide) (by decide +kernel)
theorem pr36:Pr 532247449 :=
  pock (F:=363557) (by decide +kernel) (by decide +kernel) fun r hr hd=>step_of (by decide +kernel) pr35 (q:=363557) (a:=2) (by decide +kernel) hr hd
theorem pr37:Pr 44925942675193 :=
  pock (F:=532247449) (by decide +kernel) (by decide +kernel) fun r hr hd=>step_of (by decide +kernel) pr36 (q:=532247449) (a:=2) (by decide +kernel) hr hd
theorem pr38:Pr 35581458644053887931343 :=
  pock (F:=44925942675193) (by decide +kernel) (by decide +kernel) fun r hr hd=>step_of (by decide +kernel) pr37 (q:=44925942675193) (a:=2) (by decide +kernel) hr hd
theorem pr39:Pr 23964610537191310276190549303 :=
  pock (F:=35581458644053887931343) (by decide +kernel) (by decide +kernel) fun r hr hd=>step_of (by decide +kernel) pr38 (q:=35581458644053887931343) (a:=2) (by decide +kernel) hr hd
theorem pr40:Pr 862725979338887169942859774909 :=
  pock (F:=23964610537191310276190549303) (by decide +kernel) (by decide +kernel) fun r hr hd=>step_of (by decide +kernel) pr39 (q:=23964610537191310276190549303) (a:=2) (by decide +kernel) hr hd
theorem pr41:Pr 20705423504133292078628634597817 :=
  pock (F:=862725979338887169942859774909) (by decide +kernel) (by decide +kernel) fun r hr hd=>step_of (by decide +kernel) pr40 (q:=862725979338887169942859774909) (a:=2) (by decide +kernel) hr hd
theorem pr42:Pr 413244619895455989650825325680172591660047 :=
  pock (F:=20705423504133292078628634597817) (by decide +kernel) (by decide +kernel) fun r hr hd=>step_of (by decide +kernel) pr41 (q:=20705423504133292078628634597817) (a:=2) (by decide +kernel) hr hd
theorem pr43:Pr 12397338596863679689524759770405177749801411 :=
  pock (F:=413244619895455989650825325680172591660047) (by decide +kernel) (by decide +kernel) fun r hr hd=>step_of (by decide +kernel) pr42 (q:=413244619895455989650825325680172591660047) (a:=2) (by decide +kernel) hr hd
theorem pr44:Pr 21407:=prime_small (m:=146) (by decide) (by decide) (by decide +kernel)
theorem pr45:Pr 246608641 :=
  pock (F:=21407) (by decide +kernel) (by decide +kernel) fun r hr hd=>step_of (by decide +kernel) pr44 (q:=21407) (a:=2) (by decide +kernel) hr hd
theorem pr46:Pr 881:=prime_small (m:=29) (by decide) (by decide) (by decide +kernel)
theorem pr47:Pr 211:=prime_small (m:=14) (by decide) (by decide) (by decide +kernel)
theorem pr48:Pr 105957871:=by
  refine pock (F:=185891) (by decide +kernel) (by decide +kernel) fun r hr hd => ?_
  have h0:881 ∣ r - 1:=step_of (by decide +kernel) pr46 (a:=2) (by decide +kernel) hr hd
  have h1:211 ∣ r - 1:=step_of (by decide +kernel) pr47 (a:=2) (by decide +kernel) hr hd
  have k0:=h0
  have k1:185891 ∣ r - 1:=Nat.Coprime.mul_dvd_of_dvd_of_dvd (m:=881) (n:=211) (by decide +kernel) k0 h1
  exact k1
theorem pr49:Pr 529709925838459440593:=by
  refine pock (F:=26130126570563311) (by decide +kernel) (by decide +kernel) fun r hr hd => ?_
  have h0:246608641 ∣ r - 1:=step_of (by decide +kernel) pr45 (a:=2) (by decide +kernel) hr hd
  have h1:105957871 ∣ r - 1:=step_of (by decide +kernel) pr48 (a:=2) (by decide +kernel) hr hd
  have k0:=h0
  have k1:26130126570563311 ∣ r - 1:=Nat.Coprime.mul_dvd_of_dvd_of_dvd (m:=246608641) (n:=105957871) (by decide +kernel) k0 h1
  exact k1
theorem pr50:Pr 19173790298027098165721053155794528970226934547887232785722672956982046098136719667167519737147526097:=by
  refine pock (F:=6566993308738930588330512200382809924575610638753396583902076723) (by decide +kernel) (by decide +kernel) fun r hr hd => ?_
  have h0:12397338596863679689524759770405177749801411 ∣ r - 1:=step_of (by decide +kernel) pr43 (a:=2) (by decide +kernel) hr hd
  have h1:529709925838459440593 ∣ r - 1:=step_of (by decide +kernel) pr49 (a:=2) (by decide +kernel) hr hd
  have k0:=h0
  have k1:6566993308738930588330512200382809924575610638753396583902076723 ∣ r - 1:=Nat.Coprime.mul_dvd_of_dvd_of_dvd (m:=12397338596863679689524759770405177749801411) (n:=529709925838459440593) (by decide +kernel) k0 h1
  exact k1
theorem pr51:Pr 39402006196394479212279040100143613805079739270465446667948293404245721771496870329047266088258938001861606973112319 :=
  pock (F:=19173790298027098165721053155794528970226934547887232785722672956982046098136719667167519737147526097) (by decide +kernel) (by decide +kernel) fun r hr hd=>step_of (by decide +kernel) pr50 (q:=19173790298027098165721053155794528970226934547887232785722672956982046098136719667167519737147526097) (a:=2) (by decide +kernel) hr hd
theorem prime256:Pr 115792089210356248762697446949407573530086143415290314195533631308867097853951:=pr9
theorem prime384:Pr 39402006196394479212279040100143613805079739270465446667948293404245721771496870329047266088258938001861606973112319:=pr51
theorem prime521:Pr 6864797660130609714981900799081393217269435300143305409394463459185543183397656052122559640661454554977296311391480858037121987999716643812574028291115057151:=pr34
end
section
def powOk (p a n c:Nat):Bool:=Nat.beq (pm p (n.log2+1) a n) c
theorem powOk_eq {p a n c:Nat} (h:powOk p a n c=true):a^n%p=c:=by
  have h1:=pm_eq p (n.log2+1) a n Nat.lt_log2_self
  rw [← h1]
  exact Nat.eq_of_beq_eq_true h
structure CrvOk (p B mz C2 j0:Nat):Prop where
  h4:p%4=3
  hmz:mz<p
  hC2:C2<p
  hj:mm p (3*mz) j0=1
  hC:(p - mz)^(3*((p+1)/4))%p=C2∨(p - mz)^(3*((p+1)/4))%p=p - C2
  hsq:mm p (mRoot p (mRight p B (mm p B j0))) (mRoot p (mRight p B (mm p B j0)))=mRight p B (mm p B j0)
def crvTest (p B mz C2 j0:Nat):Bool :=
  Nat.beq (p%4) 3 && Nat.blt mz p && Nat.blt C2 p && Nat.beq (mm p (3*mz) j0) 1 &&
  (powOk p (p - mz) (3*((p+1)/4)) C2 || powOk p (p - mz) (3*((p+1)/4)) (p - C2)) &&
  Nat.beq (mm p (pm p (((p+1)/4).log2+1) (mRight p B (mm p B j0)) ((p+1)/4)) (pm p (((p+1)/4).log2+1) (mRight p B (mm p B j0)) ((p+1)/4))) (mRight p B (mm p B j0))
theorem crv_of {p B mz C2 j0:Nat} (h:crvTest p B mz C2 j0=true):CrvOk p B mz C2 j0:=by
  unfold crvTest at h
  simp only [Bool.and_eq_true,Bool.or_eq_true] at h
  obtain ⟨⟨⟨⟨⟨h1,h2⟩,h3⟩,h4⟩,h5⟩,h6⟩:=h
  have e:=pm_eq p (((p+1)/4).log2+1) (mRight p B (mm p B j0)) ((p+1)/4) Nat.lt_log2_self
  rw [e] at h6
  exact ⟨Nat.eq_of_beq_eq_true h1,by simp [Nat.blt] at h2;omega,by simp [Nat.blt] at h3;omega,Nat.eq_of_beq_eq_true h4,h5.imp powOk_eq powOk_eq,Nat.eq_of_beq_eq_true h6⟩
def nC2_256:Nat:=54610493293894747874878264174204470126516981501497076827545162717791335895809
def nJ0_256:Nat:=111932352903344373803940865384427321079083271968113970389015843598571527925486
theorem crv256:CrvOk 115792089210356248762697446949407573530086143415290314195533631308867097853951 41058363725152142129326129780047268409114441015993725554835256314039467401291 10 nC2_256 nJ0_256:=crv_of (by decide +kernel)
def nC2_384:Nat:=245581924330355933059354953436454308283684637692875694451750329610872227127112066054762383127358415667364631269478
def nJ0_384:Nat:=1094500172122068867007751113892878161252214979735151296331897039006825604763801953584646280229414944496155749253120
theorem crv384:CrvOk 39402006196394479212279040100143613805079739270465446667948293404245721771496870329047266088258938001861606973112319 27580193559959705877849011840389048093056905856361568521428707301988689241309860865136260764883745107765439761230575 12 nC2_384 nJ0_384:=crv_of (by decide +kernel)
def nC2_521:Nat:=8
def nJ0_521:Nat:=2860332358387754047909125332950580507195598041726377253914359774660642993082356688384399850275606064573873463079783690848800828333215268255239178454631273813
theorem crv521:CrvOk 6864797660130609714981900799081393217269435300143305409394463459185543183397656052122559640661454554977296311391480858037121987999716643812574028291115057151 1093849038073734274511112390766805569936207598951683748994586394495953116150735016013708737573759623248592132296706313309438452531591012912142327488478985984 4 nC2_521 nJ0_521:=crv_of (by decide +kernel)
end
section
theorem map_ne {p:Nat} [NeZero p] (hp:Pr p) {B mz u i3 it i0:Nat} (hB:cc p B≠0):¬ (specX p B mz u i3 it i0=0∧specY p B mz u i3 it i0=0):=by
  have hp2:=hp.1
  have hone:(1:Fin p)≠0:=fun h=>by
    have:=cc_one (p:=p)
    rw [h,cc_eq_zero] at this
    have:=Nat.le_of_dvd (by omega) this
    omega
  have key:∀ x,x=0→mSign p u (mRoot p (mRight p B x))≠0:=by
    rintro x rfl h
    have hr:cc p (mRoot p (mRight p B 0))=cc p B^((p+1)/4):=by
      rw [cc_root,cc_right]
      have:gOf (cc p B) (cc p 0)=cc p B:=by unfold gOf;rw [cc_zero];grind
      rw [this]
    have hne:cc p (mRoot p (mRight p B 0))≠0:=by rw [hr];exact fp_pow_ne hp hB hone _
    unfold mSign at h
    split at h
    · exact hne (by rw [h,cc_zero])
    · refine hne ?_
      have h1:cc p (ms p 0 (mRoot p (mRight p B 0)))=0:=by rw [h,cc_zero]
      rw [cc_ms (by have:mRoot p (mRight p B 0)<p:=Nat.mod_lt _ (Nat.pos_of_neZero p);omega),cc_zero] at h1
      grind
  rintro ⟨h1,h2⟩
  unfold specX at h1
  unfold specY at h2
  dsimp only at h1 h2
  by_cases hc:mm p (mRoot p (mRight p B (mX1 p B mz u i3 it i0))) (mRoot p (mRight p B (mX1 p B mz u i3 it i0)))=mRight p B (mX1 p B mz u i3 it i0)
  · rw [if_pos hc] at h1 h2
    exact key _ h1 h2
  · rw [if_neg hc] at h1 h2
    exact key _ h1 h2
end
end Go.Proofs.YtpfmbfkhjapbbaaGreatDoor
